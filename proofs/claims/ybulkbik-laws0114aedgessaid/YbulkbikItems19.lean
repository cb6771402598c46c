import Derived.Test.YbulkbikItemsW
namespace Go.Proofs.Ybulkbik
open Go.RowKit Go.Maps

set_option maxHeartbeats 1000000 in
/-- 'items' where the numbering is held already. -/
theorem items19_held (ib pb : Nat) (f : Nat → Value) (c : Int) (a : Option Addr) (l cp : Nat) (w : World) (hin : w.cell? ⟨ib, 4, none⟩ = some (.pointer (some ⟨pb, 0, none⟩))) (hit : w.rowIs pb 71 2 f) (hf0 : f 0 = .int .i64 c) (hf1 : f 1 = .slice a l cp) :
    Calls Yba.prog 19 #[.pointer (some ⟨ib, 0, none⟩)] w fun e w' => e = .returned (.agg #[.int .i64 c, .slice a l cp]) ∧ w' = w.alloc (.cells #[.int .i64 c, .slice a l cp] 71) := by
  have h0 := hit.cell (i := 0) (by omega)
  have h1 := hit.cell (i := 1) (by omega)
  have hlt := hit.lt
  have hib := World.block_lt_of_cell? w _ hin
  rw [hf0] at h0
  rw [hf1] at h1
  clear hit hf0 hf1
  go_enter Yba.func19, Yba.ntmps19
  go_wp2
  have hr := World.rowIs_alloc w #[.int .i64 c, .slice a l cp] 71 (fun j => if j = 0 then .int .i64 c else .slice a l cp) (fun i hi => by
      match i, hi with
      | 0, _ => rfl
      | 1, _ => rfl)
  exact bodyPost_ret (ret71 Yba.results19 rfl hr) rfl ⟨rfl, rfl⟩

set_option maxHeartbeats 1000000 in
/-- 'items' the first time. -/
theorem items19_new (ib ob n : Nat) (f : Nat → Value) (K S : Nat → ByteArray) (T : Nat → Int) (w : World) (hn : n ≤ 1024) (hops : w.rowIs ob 76 (n * 3) (opCell K T S)) (hS : ∀ i, i < n → (S i).size ≤ maxLen)
    (hin : w.rowIs ib 69 5 f) (hf0 : f 0 = .slice (some ⟨ob, 0, none⟩) n n) (hf4 : f 4 = .pointer none) :
    Calls Yba.prog 19 #[.pointer (some ⟨ib, 0, none⟩)] w fun e w' => ∃ g pb, e = .returned (.agg #[.int .i64 ((seenTo K S n).length : Nat), .slice (some ⟨g, 0, none⟩) n n]) ∧ w.grownBy w' (some ib) ∧
      w'.rowIs ib 69 5 (fun j => if j = 4 then .pointer (some ⟨pb, 0, none⟩) else f j) ∧ w'.rowIs pb 71 2 (itCell (seenTo K S n).length g n) ∧ w'.rowIs g 21 n (fun j => .int .i32 (numAt K S j)) ∧
      w.heap.size ≤ g ∧ w.heap.size ≤ pb := by
  have h0 := hin.cell (i := 0) (by omega)
  have h4 := hin.cell (i := 4) (by omega)
  have hfr := hin.frozen 4
  have hlt := hin.lt
  rw [hf0] at h0
  rw [hf4] at h4
  go_enter Yba.func19, Yba.ntmps19
  go_wp2_with fail
  refine (items30 ob n K S T _ hn (hops.alloc _) hS).mono ?_
  rintro e w1 ⟨rfl, hb1, hr1⟩
  simp only [World.size_alloc] at hb1 hr1 ⊢
  have hin1 : w1.rowIs ib 69 5 f := (hin.alloc _).of_block (hb1.block ib (by omega))
  have hres : w1.rowIs w.heap.size 71 2 it0Cell := by
    refine World.rowIs.of_block ?_ (hb1.block w.heap.size (by omega))
    exact World.rowIs_alloc w #[.int .i64 0, .slice none 0 0] 71 it0Cell (fun i hi => by
      match i, hi with
      | 0, _ => rfl
      | 1, _ => rfl)
  have k4 := hin1.cell (i := 4) (by omega)
  have kf4 := hin1.frozen 4
  have kl := hin1.lt
  have k0 := hres.cell (i := 0) (by omega)
  have k1 := hres.cell (i := 1) (by omega)
  have kf0 := hres.frozen 0
  have kf1 := hres.frozen 1
  have kl2 := hres.lt
  rw [hf4] at k4
  go_wp2
  have hr := ((((hres.setOther (a := ⟨ib, 4, none⟩) (by simp <;> omega) (.pointer (some ⟨w1.heap.size, 0, none⟩))).set 0 (.int .i64 ((seenTo K S n).length : Nat))).set 1
    (.slice (some ⟨w.heap.size + 1 + 3, 0, none⟩) n n)).alloc (.cells #[.int .i64 ((seenTo K S n).length : Nat), .slice (some ⟨w.heap.size + 1 + 3, 0, none⟩) n n] 71))
  refine bodyPost_ret (ret71 Yba.results19 rfl hr) rfl ⟨w.heap.size + 1 + 3, w1.heap.size, rfl, ⟨hb1.os, hb1.tape, hb1.output, ?_, fun k hk hne => ?_⟩, ?_, ?_, ?_, by omega, by omega⟩
  · have := hb1.size
    simp at this ⊢
    omega
  · have hne' : k ≠ ib := fun e => hne (by rw [e])
    rw [heap_alloc_old _ _ (by simp; omega), Below.heap_setCell _ _ _ _ (by simp; omega), Below.heap_setCell _ _ _ _ (by simp; omega), Below.heap_setCell _ _ _ _ (by simpa using hne'), hb1.block k (by omega), heap_alloc_old _ _ hk]
  · exact (((hin1.set 4 _).setOther (by simp; omega) _).setOther (by simp; omega) _).alloc _
  · have := World.rowIs_alloc (((w1.setCell ⟨ib, 4, none⟩ (.pointer (some ⟨w1.heap.size, 0, none⟩))).setCell ⟨w.heap.size, 0, none⟩ (.int .i64 ((seenTo K S n).length : Nat))).setCell ⟨w.heap.size, 1, none⟩ (.slice (some ⟨w.heap.size + 1 + 3, 0, none⟩) n n))
      #[.int .i64 ((seenTo K S n).length : Nat), .slice (some ⟨w.heap.size + 1 + 3, 0, none⟩) n n] 71 (itCell (seenTo K S n).length (w.heap.size + 1 + 3) n) (fun i hi => by
      match i, hi with
      | 0, _ => rfl
      | 1, _ => rfl)
    simp only [World.size_setCell] at this
    exact this
  · exact (((hr1.setOther (by simp; omega) _).setOther (by simp; omega) _).setOther (by simp; omega) _).alloc _

set_option maxHeartbeats 1000000 in
/-- 'zzs0114csame' of a numbering with itself. -/
theorem csame20 (g n : Nat) (c : Int) (z : Nat → Int) (w : World) (hn : n ≤ 1024) (hrow : w.rowIs g 21 n (fun j => .int .i32 (z j))) :
    Calls Yba.prog 20 #[.agg #[.int .i64 c, .slice (some ⟨g, 0, none⟩) n n], .agg #[.int .i64 c, .slice (some ⟨g, 0, none⟩) n n]] w fun e w' => e = .returned (.bool true) ∧ Below w.heap.size w w' := by
  have hlt := hrow.lt
  go_enter Yba.func20, Yba.ntmps20
  go_wp2
  go_loopw [23] (fun i wr => ∃ k : Nat, k ≤ n ∧ i = .int .i64 k ∧ Below w.heap.size w wr ∧ wr.cell? ⟨w.heap.size, 1, none⟩ = some (.slice (some ⟨g, 0, none⟩) n n) ∧ wr.cell? ⟨w.heap.size + 1, 1, none⟩ = some (.slice (some ⟨g, 0, none⟩) n n))
    (fun i _ => n - (intOf i).toNat)
  case atStart =>
    refine ⟨0, Nat.zero_le _, rfl, ((Below.refl _ _).alloc (Nat.le_refl _) _).alloc (by simp) _, by go_simp, by go_simp⟩
  case round =>
    obtain ⟨k, hk, rfl, hbel, c1, c2⟩ := hrel
    by_cases hltk : k < n
    · have hI0 : (0 : Int) ≤ (k : Int) := by omega
      have hI1 : (k : Int) < (n : Int) := by omega
      have r := (hbel.cell (p := ⟨g, k, none⟩) hlt).trans (hrow.cell (i := k) hltk)
      go_wp2_with fail
      go_quiet (fail)
      go_wp2
      go_roundw
      case rel => exact ⟨k + 1, by omega, by go_num, below_drewN hbel _, by go_simp, by go_simp⟩
      case measure => simp [intOf]; omega
    · go_wp2
      go_ret
      exact ⟨rfl, hbel⟩

end Go.Proofs.Ybulkbik
