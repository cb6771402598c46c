import Derived.Test.YbulkbiySet
namespace Go.Proofs.Ybulkbiy
attribute [local go_sem ↓] Go.wp_at_zero Go.wp_at_succ
open Go.RowKit Go.Maps Go.Sort

theorem at_rowV {w W : World} {blk off t N : Nat} {d : Array Int} {f : Nat → Value} (h : SI w blk off d W) (hr : w.rowIs blk t N f) :
    W.rowIs blk t N (fun i => if off ≤ i ∧ i < off + d.size then .int .u64 d[i - off]! else f i) := by
  have hlt := hr.lt
  obtain ⟨c, hc, hs, hcell⟩ := hr
  obtain ⟨m, os, rfl⟩ := h
  refine ⟨putCells (Value.int .u64) off d c, ?_, by simp [putCells, hs], fun i hi => ?_⟩
  · rw [heap_grow_old _ _ (by simpa using hlt)]
    show (w.heap.modify blk _)[blk]? = _
    rw [Array.getElem?_modify, if_pos rfl, hc]
    rfl
  · have := hcell i hi
    simp only [putCells, Array.getElem?_mapIdx, this, Option.map_some]

/-- The numbers, sorted, each once. -/
def setL (K : Nat → Int) (n : Nat) : List Int := Lib.compact (((List.range n).map K).mergeSort fun x y => decide (x ≤ y))

theorem setL_len (K : Nat → Int) (n : Nat) : (setL K n).length ≤ n := by
  unfold setL Lib.compact Lib.compactUpTo
  rw [List.length_map]
  exact Nat.le_trans (List.length_filter_le _ _) (by simp)

/-- A list of numbers that lies in a block of the call's own, none of it frozen. -/
structure OwnL (W : World) (g cp : Nat) (l : List Int) : Prop where
  row : ∃ f, W.rowIs g 23 cp f ∧ ∀ i, i < l.length → f i = .int .u64 l[i]!
  len : l.length ≤ cp

set_option maxHeartbeats 1000000 in
theorem set6 (b off n cap : Nat) (K : Nat → Int) (w : World) (h : ∀ i, i < n → w.cell? ⟨b, off + i, none⟩ = some (.int .u64 (K i))) (hn : n ≤ 256) :
    Calls Yba.prog 6 #[.slice (some ⟨b, off, none⟩) n cap] w fun e w' => ∃ g cp, e = .returned (.slice (some ⟨g, 0, none⟩) (setL K n).length cp) ∧ w.heap.size ≤ g ∧ OwnL w' g cp (setL K n) ∧ Below w.heap.size w w' := by
  have c13 := clone13 b off n cap K w h (by omega)
  clear h
  go_enter Yba.func6, Yba.ntmps6
  go_wp2_with fail
  refine c13.mono ?_
  rintro e w1 ⟨g, cp, f, rfl, hg, hr, hcp, hf, hb1⟩
  clear c13
  have hH : Holds (Value.int .u64) w1 g 0 ((List.range n).map K).toArray := by
    intro j hj
    have hj' : j < n := by simpa using hj
    refine ⟨?_, by rw [Nat.zero_add]; exact hr.frozen j⟩
    rw [Nat.zero_add, hr.cell (by omega), hf j hj', getElem!_pos _ j hj]
    simp
  have B : Bed w1 g 0 n := ⟨⟨_, by simp, hH⟩, hr.lt, by omega⟩
  have c14 := sort54 B cp _ w1 (by simp) (At.refl hH)
  go_wp2_with fail
  refine c14.mono ?_
  rintro e w2 ⟨rfl, S2⟩
  clear c14
  have c15 := compact15 B cp _ w2 (by simp) S2 hcp
  go_wp2_with fail
  refine c15.mono ?_
  rintro e w3 ⟨rfl, S3⟩
  clear c15
  have hl := setL_len K n
  have hset : Lib.compactUpTo (((List.range n).map K).toArray.toList.mergeSort fun x y => decide (x ≤ y)).toArray (((List.range n).map K).toArray.toList.mergeSort fun x y => decide (x ≤ y)).toArray.size = setL K n := by
    simp [setL, Lib.compact]
  rw [hset] at S3 ⊢
  have hr3 := at_rowV S3 hr
  go_wp2_with fail
  go_ret
  refine ⟨g, cp, rfl, hg, ⟨⟨_, hr3, fun i hi => ?_⟩, by omega⟩, hb1.grown (at_grown S3) hb1.size (fun k e => by cases e; exact hg)⟩
  have hi2 : i < (setL K n ++ List.replicate ((((List.range n).map K).toArray.toList.mergeSort fun x y => decide (x ≤ y)).toArray.size - (setL K n).length) (0 : Int)).toArray.size := by simp; omega
  rw [if_pos ⟨Nat.zero_le _, by rw [Nat.zero_add]; exact hi2⟩, Nat.sub_zero, getElem!_pos _ i hi2, getElem!_pos _ i hi]
  congr 1
  simp only [List.getElem_toArray]
  rw [List.getElem_append_left hi]

set_option maxHeartbeats 400000 in
theorem set6_nil (cap : Nat) (w : World) : Calls Yba.prog 6 #[.slice none 0 cap] w fun e w' => e = .returned (.slice none 0 0) ∧ w' = w := by
  go_enter Yba.func6, Yba.ntmps6
  go_wp2_with (first | (go_at_call 13; refine (clone13_nil _ _ _).mono ?_; rintro e w' ⟨rfl, rfl⟩) | (go_at_call 14; refine (sort14_zero _ _ _).mono ?_; rintro e w' ⟨rfl, rfl⟩) | (go_at_call 15; refine (compact15_zero _ _ _).mono ?_; rintro e w' ⟨rfl, rfl⟩))
  go_ret
  exact ⟨rfl, rfl⟩

end Go.Proofs.Ybulkbiy
