import Derived.Test.YbulkbikBuildB
import Derived.Test.YbulkbikPlainB2
import Derived.Test.YbulkbikShelf
namespace Go.Proofs.Ybulkbik
open Go.RowKit Go.Maps

set_option maxHeartbeats 400000 in
theorem nan52 (x : Int) (w : World) : Calls Yba.prog 52 #[.int .i32 x] w fun e w' => e = .returned (.bool false) ∧ w' = w := by
  go_enter Yba.func52, Yba.ntmps52
  go_wp2
  go_ret
  simp

/-- What cmp.Compare gives. -/
def cmpI (x y : Int) : Int := if x < y then -1 else if y < x then 1 else 0

set_option maxHeartbeats 400000 in
theorem cmp36 (x y : Int) (w : World) : Calls Yba.prog 36 #[.int .i32 x, .int .i32 y] w fun e w' => e = .returned (.int .i64 (cmpI x y)) ∧ w' = w := by
  by_cases h1 : x < y
  · go_enter Yba.func36, Yba.ntmps36
    go_wp2_with (first | (go_at_call 52; refine (nan52 _ _).mono ?_; rintro e w' ⟨rfl, rfl⟩))
    go_ret
    simp [cmpI, h1]
  · by_cases h2 : y < x
    · go_enter Yba.func36, Yba.ntmps36
      go_wp2_with (first | (go_at_call 52; refine (nan52 _ _).mono ?_; rintro e w' ⟨rfl, rfl⟩))
      go_ret
      simp [cmpI, h1, h2]
    · go_enter Yba.func36, Yba.ntmps36
      go_wp2_with (first | (go_at_call 52; refine (nan52 _ _).mono ?_; rintro e w' ⟨rfl, rfl⟩))
      go_ret
      have e1 : ¬ x < y := by omega
      have e2 : ¬ y < x := by omega
      refine ⟨?_, rfl⟩
      unfold cmpI
      rw [if_neg e1, if_neg e2]
      rfl

set_option maxHeartbeats 400000 in
/-- The closure that compares two transactions by their numbers. -/
theorem clos35 (x y m cp bx g : Nat) (L : Nat → Int) (w : World) (hx : x < m) (hy : y < m) (_hm : m ≤ 1000000) (hb : w.cell? ⟨bx, 0, none⟩ = some (.slice (some ⟨g, 0, none⟩) m cp))
    (hcx : w.cell? ⟨g, x, none⟩ = some (.int .i32 (L x))) (hcy : w.cell? ⟨g, y, none⟩ = some (.int .i32 (L y))) :
    Calls Yba.prog 35 #[.int .i32 x, .int .i32 y, .pointer (some ⟨bx, 0, none⟩)] w fun e w' => e = .returned (.int .i64 (cmpI (L x) (L y))) ∧ ∃ q, w' = w.drewN q := by
  have hI0 : (0 : Int) ≤ (x : Int) := by omega
  have hI1 : (x : Int) < (m : Int) := by omega
  have hI2 : (0 : Int) ≤ (y : Int) := by omega
  have hI3 : (y : Int) < (m : Int) := by omega
  generalize L x = lx at *
  generalize L y = ly at *
  go_enter Yba.func35, Yba.ntmps35
  go_wp2_with fail
  go_quiet ((go_at_call 36; exact Calls.quiet_of_same (cmp36 _ _ _)))
  go_wp2_with fail
  go_ret
  exact ⟨rfl, _, rfl⟩

end Go.Proofs.Ybulkbik
