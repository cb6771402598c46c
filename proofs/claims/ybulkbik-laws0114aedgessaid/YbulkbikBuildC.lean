import Derived.Test.YbulkbikMaps
import Derived.Deep.OwnRows
import Derived.Deep.RegionHeld3
import Derived.Deep.DrawnRows
import Derived.BigQuiet
import Derived.Deep.QuietTactic
namespace Go.Proofs.Ybulkbik
attribute [local go_sem ↓] Go.wp_at_zero Go.wp_at_succ
open Go.RowKit Go.Maps

/-- The raw operations that came in: element i has its three cells behind one another. -/
def RawC (w : World) (b off n : Nat) (kd T : Nat → Int) (S : Nat → ByteArray) : Prop :=
  ∀ i, i < n → w.cell? ⟨b, off + i * 3, none⟩ = some (.int .u8 (kd i)) ∧ w.cell? ⟨b, off + i * 3 + 1, none⟩ = some (.int .i32 (T i)) ∧ w.cell? ⟨b, off + i * 3 + 2, none⟩ = some (.string (S i)) ∧
    0 ≤ kd i ∧ kd i ≤ 255 ∧ (S i).size ≤ maxLen

/-- The cells of a row of operations. -/
def opCell (K : Nat → ByteArray) (T : Nat → Int) (S : Nat → ByteArray) (j : Nat) : Value :=
  if j % 3 = 0 then .string (K (j / 3)) else if j % 3 = 1 then .int .i32 (T (j / 3)) else .string (S (j / 3))

theorem opCell0 (K T S) (i : Nat) : opCell K T S (i * 3) = .string (K i) := by simp [opCell]
theorem opCell1 (K T S) (i : Nat) : opCell K T S (i * 3 + 1) = .int .i32 (T i) := by
  have h1 : (i * 3 + 1) % 3 = 1 := by omega
  have h2 : (i * 3 + 1) / 3 = i := by omega
  simp [opCell, h1, h2]
theorem opCell2 (K T S) (i : Nat) : opCell K T S (i * 3 + 2) = .string (S i) := by
  have h1 : (i * 3 + 2) % 3 = 2 := by omega
  have h2 : (i * 3 + 2) / 3 = i := by omega
  simp [opCell, h1, h2]

theorem info76 : (Yba.prog.info? 76).map (fun i => (i.zero, i.size, i.bytes)) = some (some (.agg #[.string ⟨#[]⟩, .int .i32 0, .string ⟨#[]⟩]), 3, 40) := by kernel_rfl

/-- What 'make([]schedule.Op, n)' does. -/
theorem make50 (n : Nat) (hn : n ≤ 1000000) (w : World) : (Instr.makeSlice 50 (.int .i64 (n : Int)) (.int .i64 (n : Int))).run Yba.prog w =
    .ok (.slice (some ⟨w.heap.size, 0, none⟩) n n) (w.alloc (.cells (madeCells #[.string ⟨#[]⟩, .int .i32 0, .string ⟨#[]⟩] (n * 3)) 76)) := by
  obtain ⟨i, hi, hz0, hz1, hz2⟩ := info_parts info76
  have := run_make (P := Yba.prog) w 50 76 i _ Yba.underlying50 hi hz0 .i64 .i64 n n (by omega) (Int.le_refl _) (by rw [hz2]; omega) (by omega)
  rw [hz1] at this
  simpa [Value.cells] using this

theorem RawC.of_below {w w' : World} {b off n kd T S} (h : RawC w b off n kd T S) {B : Nat} (hb : Below B w w') (hlt : b < B) : RawC w' b off n kd T S := by
  intro i hi
  obtain ⟨h1, h2, h3, h4⟩ := h i hi
  exact ⟨(hb.cell (by exact hlt)).trans h1, (hb.cell (by exact hlt)).trans h2, (hb.cell (by exact hlt)).trans h3, h4⟩

/-- A cell of the newest block, behind a draw. -/
theorem cell_top {w : World} {c : Array Value} {t : TypeId} {n i : Nat} {v : Value} (hn : n = w.heap.size) (hv : c[i]? = some v) : (w.alloc (.cells c t)).drew.cell? ⟨n, i, none⟩ = some v := by
  rw [World.cell?_drew, World.cell?_alloc_at _ _ _ _ hn]; exact hv

/-- what the k-th round leaves in the row -/
def partC (kd T : Nat → Int) (S : Nat → ByteArray) (z : Nat → Value) (k : Nat) (j : Nat) : Value := if j < k * 3 then opCell (fun i => kindS (kd i)) T S j else z j

theorem partC_step (kd T : Nat → Int) (S : Nat → ByteArray) (z : Nat → Value) (k j : Nat) :
    (if j = k * 3 + 2 then Value.string (S k) else if j = k * 3 + 1 then Value.int .i32 (T k) else if j = k * 3 then Value.string (kindS (kd k)) else partC kd T S z k j) = partC kd T S z (k + 1) j := by
  by_cases h2 : j = k * 3 + 2
  · subst h2
    rw [if_pos rfl]
    unfold partC
    rw [if_pos (by omega), opCell2]
  · rw [if_neg h2]
    by_cases h1 : j = k * 3 + 1
    · subst h1
      rw [if_pos rfl]
      unfold partC
      rw [if_pos (by omega), opCell1]
    · rw [if_neg h1]
      by_cases h0 : j = k * 3
      · subst h0
        rw [if_pos rfl]
        unfold partC
        rw [if_pos (by omega), opCell0]
      · rw [if_neg h0]
        unfold partC
        by_cases hj : j < k * 3
        · rw [if_pos hj, if_pos (by omega)]
        · rw [if_neg hj, if_neg (by omega)]

set_option maxHeartbeats 1000000 in
theorem cbuild_any (b off n cap : Nat) (kd T : Nat → Int) (S : Nat → ByteArray) (w : World) (hn : n ≤ 1024) (hb : b < w.heap.size) (hraw : RawC w b off n kd T S) :
    Calls Yba.prog 18 #[.slice (some ⟨b, off, none⟩) n cap] w fun e w' => e = .returned (.slice (some ⟨w.heap.size, 0, none⟩) n n) ∧ Below w.heap.size w w' ∧
      w'.rowIs w.heap.size 76 (n * 3) (opCell (fun i => kindS (kd i)) T S) := by
  have hmk := make50 n (by omega)
  obtain ⟨M, hM⟩ : ∃ M, madeCells #[.string ⟨#[]⟩, .int .i32 0, .string ⟨#[]⟩] (n * 3) = M := ⟨_, rfl⟩
  have hMs : M.size = n * 3 := by rw [← hM]; exact size_madeCells _ _
  rw [hM] at hmk
  clear hM
  obtain ⟨z, hz⟩ : ∃ z : Nat → Value, ∀ i, i < M.size → M[i]? = some (z i) := ⟨fun i => M[i]?.getD undef, fun i hi => by simp [hi]⟩
  go_enter Yba.func18, Yba.ntmps18
  go_wp2
  go_loopw [11] (fun i wr => ∃ k : Nat, k ≤ n ∧ i = .int .i64 k ∧ Below w.heap.size w wr ∧ wr.rowIs w.heap.size 76 (n * 3) (partC kd T S z k)) (fun i _ => n - (intOf i).toNat)
  case atStart =>
    refine ⟨0, Nat.zero_le _, rfl, (Below.refl _ _).alloc (Nat.le_refl _) _, ?_⟩
    have := World.rowIs_alloc w M 76 z hz
    rw [hMs] at this
    exact this.congr (fun i _ => by simp [partC])
  case round =>
    obtain ⟨k, hk, rfl, hbel, hrow⟩ := hrel
    by_cases hlt : k < n
    · have hI0 : (0 : Int) ≤ (k : Int) := by omega
      have hI1 : (k : Int) < (n : Int) := by omega
      obtain ⟨c0, c1, c2, hk0, hk1, _⟩ := hraw.of_below hbel hb k hlt
      have hsz := hrow.lt
      have hbw : b < wr.heap.size := by omega
      have f0 := hrow.frozen (k * 3)
      have f1 := hrow.frozen (k * 3 + 1)
      have f2 := hrow.frozen (k * 3 + 2)
      have d0 := hrow.cell (i := k * 3) (by omega)
      have d1 := hrow.cell (i := k * 3 + 1) (by omega)
      have d2 := hrow.cell (i := k * 3 + 2) (by omega)
      go_wp2_with fail
      go_region_held3 (fun w' => w'.cell? ⟨wr.heap.size, 0, none⟩ = some (.int .u8 (kd k)) ∧ w'.cell? ⟨wr.heap.size, 1, none⟩ = some (.int .i32 (T k)) ∧ w'.cell? ⟨wr.heap.size, 2, none⟩ = some (.string (S k))) (first | (refine ⟨?_, ?_, ?_⟩ <;> (refine cell_top ?_ rfl; simp; done)) | go_keep)
        (first | (go_at_call 29; refine (ckind_any _ _ hk0 hk1).mono ?_; rintro e w' ⟨rfl, rfl⟩))
      go_wp2
      go_roundw
      case rel =>
        refine ⟨k + 1, by omega, by go_num, ((((hbel.setCell (Nat.le_refl _) _).setCell (Nat.le_refl _) _).setCell (Nat.le_refl _) _).alloc (by simp; omega) _).drew, ?_⟩
        exact ((((hrow.set _ _).set _ _).set _ _).alloc _).drew.congr (fun i _ => partC_step kd T S z k i)
      case measure => simp [intOf]; omega
    · go_wp2
      go_ret
      have : k = n := by omega
      subst this
      exact ⟨rfl, hbel, hrow.congr (fun i hi => by simp [partC, hi])⟩

set_option maxHeartbeats 400000 in
theorem cbuild_zero (a : Option Addr) (cap : Nat) (w : World) (K : Nat → ByteArray) (T : Nat → Int) (S : Nat → ByteArray) :
    Calls Yba.prog 18 #[.slice a 0 cap] w fun e w' => e = .returned (.slice (some ⟨w.heap.size, 0, none⟩) 0 0) ∧ Below w.heap.size w w' ∧
      w'.rowIs w.heap.size 76 0 (opCell K T S) := by
  have hmk := make50 0 (by omega)
  obtain ⟨M, hM⟩ : ∃ M, madeCells #[.string ⟨#[]⟩, .int .i32 0, .string ⟨#[]⟩] (0 * 3) = M := ⟨_, rfl⟩
  have hMs : M.size = 0 := by rw [← hM]; simp [madeCells]
  rw [hM] at hmk
  clear hM
  simp only [Int.natCast_zero] at hmk
  go_enter Yba.func18, Yba.ntmps18
  go_wp2
  refine wp_loop_rounds 1 ?_
  rw [rounds_succ]
  go_wp2
  go_ret
  refine ⟨rfl, (Below.refl _ _).alloc (Nat.le_refl _) _, ?_⟩
  exact ⟨M, heap_alloc_new w _, hMs, fun i hi => absurd hi (Nat.not_lt_zero _)⟩

/-- What 'zzs0114cbuild' leaves, whatever slice came in. -/
def CBuilt (v : Value) (n : Nat) (K : Nat → ByteArray) (T : Nat → Int) (S : Nat → ByteArray) (w : World) : Prop :=
  Calls Yba.prog 18 #[v] w fun e w' => e = .returned (.slice (some ⟨w.heap.size, 0, none⟩) n n) ∧ Below w.heap.size w w' ∧ w'.rowIs w.heap.size 76 (n * 3) (opCell K T S)

end Go.Proofs.Ybulkbik
