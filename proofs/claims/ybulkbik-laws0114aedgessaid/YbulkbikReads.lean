import Derived.Test.YbulkbikModel
namespace Go.Proofs.Ybulkbik
attribute [local go_sem ↓] Go.wp_at_zero Go.wp_at_succ
open Go.RowKit Go.Maps

theorem dead_abTo (K S : Nat → ByteArray) (T : Nat → Int) (n i j : Nat) : deadB (bops K S T n) j i = (!decide (abTo K T n (T j) = 0) && decide (abTo K T n (T j) < (i : Int) + 1)) := by
  unfold deadB abB abTo
  show (match lastBelow (fun q => ((K q).toList == [97]) && decide (T q = T j)) n with | some k => decide (k < i) | none => false) = _
  cases lastBelow (fun q => ((K q).toList == [97]) && decide (T q = T j)) n with
  | none => simp
  | some q =>
    have : ¬ ((q : Int) + 1 = 0) := by omega
    simp [this]

theorem abTo_bd (K : Nat → ByteArray) (T : Nat → Int) (k : Nat) (t : Int) : 0 ≤ abTo K T k t ∧ abTo K T k t ≤ k := by
  unfold abTo
  split
  · rename_i q h
    have := (lastBelow_some h).1
    omega
  · omega

/-- 'abortedBefore'. -/
theorem aborted28 (eb m r : Nat) (ab : Int) (at_ : Int) (w : World) (hr : r < m) (hc : w.cell? ⟨eb, r * 3 + 1, none⟩ = some (.int .i64 ab)) :
    Calls Yba.prog 28 #[.slice (some ⟨eb, 0, none⟩) m m, .int .i32 (r : Nat), .int .i64 at_] w fun e w' => e = .returned (.bool (!decide (ab = 0) && decide (ab < at_))) ∧ w' = w := by
  go_enter Yba.func28, Yba.ntmps28
  by_cases h0 : ab = 0
  · subst h0
    go_wp2_with fail
    go_ret
    simp
  · by_cases h1 : ab < at_
    · go_wp2_with fail
      go_ret
      simp [h0, h1]
    · go_wp2_with fail
      go_ret
      simp [h1]

/-- 'reads': the iterator over the boxed input. -/
theorem reads16 (ib : Nat) (w : World) : Calls Yba.prog 16 #[.pointer (some ⟨ib, 0, none⟩)] w fun e w' => e = .returned (.func (.func 27) #[] #[.pointer (some ⟨w.heap.size, 0, none⟩)]) ∧ w' = w.alloc (.cells #[.pointer (some ⟨ib, 0, none⟩)] 32) := by
  go_enter Yba.func16, Yba.ntmps16
  go_wp2_with fail
  go_ret
  exact ⟨rfl, rfl⟩

end Go.Proofs.Ybulkbik
