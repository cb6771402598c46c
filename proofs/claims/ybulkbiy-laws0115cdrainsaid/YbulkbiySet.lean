import Derived.Test.YbulkbiySoSort
import Derived.Test.YbulkbiyShelf
import Derived.Deep.OwnRows
import Derived.Deep.RegionHeld3
import Derived.Deep.DrawnRows
import Derived.Maps.OwnSet
import Derived.BigQuiet
/-! zzs0115cset (6): the numbers sorted, each once. -/
namespace Go.Proofs.Ybulkbiy
attribute [local go_sem ↓] Go.wp_at_zero Go.wp_at_succ
open Go.RowKit Go.Maps Go.Sort

theorem infoY23 : (Yba.prog.info? 23).map (fun i => (i.zero, i.size, i.bytes)) = some (some (.int .u64 0), 1, 8) := by kernel_rfl
theorem zeroY23 (w : World) : (zeroValue 23).run Yba.prog w = .ok (.int .u64 0) w := by kernel_rfl

theorem rowIs_grown {w w' : World} {b t n : Nat} {f : Nat → Value} {row : Option Nat} (h : w.rowIs b t n f) (hg : w.grownBy w' row) (hne : some b ≠ row) : w'.rowIs b t n f :=
  h.of_block (hg.block b h.lt hne)

theorem at_other {w W : World} {blk off : Nat} {d : Array Int} (h : SI w blk off d W) {k : Nat} (hk : k < w.heap.size) (hne : k ≠ blk) : W.heap[k]? = w.heap[k]? := by
  obtain ⟨m, os, rfl⟩ := h
  rw [heap_grow_old _ _ (by simpa using hk)]
  show (w.heap.modify blk _)[k]? = w.heap[k]?
  rw [Array.getElem?_modify, if_neg (by omega)]

theorem at_row {w W : World} {blk off t N : Nat} {d : Array Int} {F : Nat → Int} (h : SI w blk off d W) (hr : w.rowIs blk t N (fun i => .int .u64 (F i))) :
    W.rowIs blk t N (fun i => .int .u64 (if off ≤ i ∧ i < off + d.size then d[i - off]! else F i)) := by
  have hlt := hr.lt
  obtain ⟨c, hc, hs, hcell⟩ := hr
  obtain ⟨m, os, rfl⟩ := h
  refine ⟨putCells (Value.int .u64) off d c, ?_, by simp [putCells, hs], fun i hi => ?_⟩
  · rw [heap_grow_old _ _ (by simpa using hlt)]
    show (w.heap.modify blk _)[blk]? = _
    rw [Array.getElem?_modify, if_pos rfl, hc]
    rfl
  · have := hcell i hi
    simp only [putCells, Array.getElem?_mapIdx, this, Option.map_some]
    by_cases e : off ≤ i ∧ i < off + d.size
    · rw [if_pos e, if_pos e]
    · rw [if_neg e, if_neg e]

theorem at_grown {w W : World} {blk off : Nat} {d : Array Int} (h : SI w blk off d W) : w.grownBy W (some blk) :=
  ⟨by obtain ⟨m, os, rfl⟩ := h; rfl, by obtain ⟨m, os, rfl⟩ := h; rfl, by obtain ⟨m, os, rfl⟩ := h; rfl, h.le, fun k hk hne => at_other h hk (fun e => hne (by rw [e]))⟩

/-- slices.Compact at []uint64, from a world of the sort's. -/
theorem compact15 {w0 : World} {blk off n : Nat} (B : Bed w0 blk off n) (cap : Nat) (d : Array Int) (w : World) (hs : d.size = n) (S : SI w0 blk off d w) (hc : n ≤ cap) :
    Calls Yba.prog 15 #[.slice (some ⟨blk, off, none⟩) n cap] w fun e w' => e = .returned (.slice (some ⟨blk, off, none⟩) (Lib.compactUpTo d d.size).length cap) ∧
      SI w0 blk off (Lib.compactUpTo d d.size ++ List.replicate (d.size - (Lib.compactUpTo d d.size).length) (0 : Int)).toArray w' := by
  obtain ⟨d0, h0, hH⟩ := B.row
  have hH2 := (S.holds hH (by omega) B.old).1
  have few := B.few
  have hcon := AnyE.slices_Compact (ρ := Yba.compactL_ren) Yba.compactL (Value.int .u64) (fun _ => rfl) (EqlAt.intD _ _ _) (NeqAt.intD _ _ _) 0 zeroY23 blk off cap d w hH2 (by omega) (by omega)
  change Calls Yba.prog 15 _ _ _ at hcon
  rw [hs] at hcon ⊢
  refine hcon.mono ?_
  rintro e w' ⟨rfl, q, rfl⟩
  refine ⟨rfl, S.step B.old ?_ ⟨q, rfl⟩⟩
  have hl : (Lib.compactUpTo d n).length ≤ n := by
    unfold Lib.compactUpTo
    rw [List.length_map]
    exact Nat.le_trans (List.length_filter_le _ _) (by simp)
  simp only [List.size_toArray, List.length_append, List.length_replicate]
  omega

/-- slices.Clone at []uint64. -/
theorem clone13 (b off n c : Nat) (F : Nat → Int) (W : World) (h : ∀ i, i < n → W.cell? ⟨b, off + i, none⟩ = some (.int .u64 (F i))) (hn2 : n ≤ 1000) :
    Calls Yba.prog 13 #[.slice (some ⟨b, off, none⟩) n c] W fun e w' => ∃ g cap f, e = .returned (.slice (some ⟨g, 0, none⟩) n cap) ∧ W.heap.size ≤ g ∧ w'.rowIs g 23 cap f ∧ n ≤ cap ∧ (∀ i, i < n → f i = .int .u64 (F i)) ∧ Below W.heap.size W w' := by
  obtain ⟨i3, hi3, hz30, hz31, hz32⟩ := info_parts infoY23
  have hcon := AnyE.slices_Clone (ρ := Yba.cloneL_ren) Yba.cloneL i3 (.int .u64 0) 1 8 hi3 hz30 hz31 hz32 rfl (by decide) Yba.sizeOf23 b off n c ((List.range n).map fun i => Value.int .u64 (F i)) W (by simp) (by unfold maxLen; omega) (by omega)
    (fun j u hu => by
      have hj : j < n := by
        have := (List.getElem?_eq_some_iff.1 hu).1
        simpa using this
      simp [hj] at hu
      rw [← hu]
      exact h j hj) (by intro u hu; simp at hu; obtain ⟨i, _, rfl⟩ := hu; rfl)
  change Calls Yba.prog 13 _ _ _ at hcon
  refine hcon.mono ?_
  rintro e w' ⟨v', rfl, hown, hne, hb⟩
  rcases hown.2 with ⟨e, _⟩ | ⟨g, cap, cur, rfl, hg, hh, h1, h2, h3, h4⟩
  · exact absurd e hne
  · refine ⟨g, cap, fun i => cur[i]?.getD undef, rfl, hg, ⟨cur, hh, by simpa using h3, fun i hi => by simp at h3; simp [h3, hi]⟩, h1, fun i hi => ?_, hb⟩
    have hi2 : cur.toList[i]? = some (.int .u64 (F i)) := by
      have : (cur.toList.take (n * 1))[i]? = some (.int .u64 (F i)) := by rw [h4]; simp [hi]
      rwa [List.getElem?_take_of_lt (by omega)] at this
    have : cur[i]? = some (.int .u64 (F i)) := by simpa using hi2
    simp [this]

theorem clone13_nil (n c : Nat) (w : World) : Calls Yba.prog 13 #[.slice none n c] w fun e w' => e = .returned (.slice none 0 0) ∧ w' = w :=
  AnyE.slices_Clone_nil (ρ := Yba.cloneL_ren) Yba.cloneL n c w

theorem ins25_zero (a : Option Addr) (c : Nat) (w : World) : Calls Yba.prog 25 #[.slice a 0 c, .int .i64 0, .int .i64 0] w fun e w' => e = .returned (.tuple #[]) ∧ w' = w := by
  go_enter Yba.func25, Yba.ntmps25
  go_wp2
  refine wp_loop_rounds 1 ?_
  rw [rounds_succ]
  go_wp2
  go_end0
  exact ⟨rfl, rfl⟩

set_option maxRecDepth 100000 in
set_option maxHeartbeats 1000000 in
theorem pdq20_zero (a : Option Addr) (c : Nat) (l : Int) (w : World) : Calls Yba.prog 20 #[.slice a 0 c, .int .i64 0, .int .i64 0, .int .i64 l] w fun e w' => e = .returned (.tuple #[]) ∧ w' = w := by
  go_enter Yba.func20, Yba.ntmps20
  go_wp2_with fail
  refine wp_loop_rounds 1 ?_
  rw [rounds_succ]
  go_wp2_with (first | (go_at_call 25; refine (ins25_zero _ _ _).mono ?_; rintro e w' ⟨rfl, rfl⟩))
  exact bodyPost_ret (results_none rfl _ _ _) rfl ⟨rfl, rfl⟩

set_option maxRecDepth 100000 in
set_option maxHeartbeats 1000000 in
theorem len21_zero (w : World) : Calls Yba.prog 21 #[.int .u64 0] w fun e w' => (∃ l, e = .returned (.int .i64 l)) ∧ w' = w := by
  go_enter Yba.func21, Yba.ntmps21
  go_wp2
  go_ret
  exact ⟨⟨_, rfl⟩, rfl⟩

set_option maxHeartbeats 400000 in
theorem sort14_zero (a : Option Addr) (c : Nat) (w : World) : Calls Yba.prog 14 #[.slice a 0 c] w fun e w' => e = .returned (.tuple #[]) ∧ w' = w := by
  go_enter Yba.func14, Yba.ntmps14
  go_wp2_with (first | (go_at_call 21; refine (len21_zero _).mono ?_; rintro e w' ⟨⟨l, rfl⟩, rfl⟩) | (go_at_call 20; refine (pdq20_zero _ _ _ _).mono ?_; rintro e w' ⟨rfl, rfl⟩))
  go_end0
  exact ⟨rfl, rfl⟩

set_option maxHeartbeats 400000 in
theorem compact15_zero (a : Option Addr) (c : Nat) (w : World) : Calls Yba.prog 15 #[.slice a 0 c] w fun e w' => e = .returned (.slice a 0 c) ∧ w' = w := by
  go_enter Yba.func15, Yba.ntmps15
  go_wp2
  go_ret
  exact ⟨rfl, rfl⟩

end Go.Proofs.Ybulkbiy
