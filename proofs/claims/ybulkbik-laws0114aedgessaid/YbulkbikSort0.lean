import Derived.Test.YbulkbikSort34
namespace Go.Proofs.Ybulkbik
open Go.RowKit

set_option maxHeartbeats 400000 in
theorem ins56_zero (a : Option Addr) (fv : Value) (w : World) : Calls Yba.prog 56 #[.slice a 0 0, .int .i64 0, .int .i64 0, fv] w fun e w' => e = .returned (.tuple #[]) ∧ w' = w := by
  go_enter Yba.func56, Yba.ntmps56
  go_wp2
  refine wp_loop_rounds 1 ?_
  rw [rounds_succ]
  go_wp2
  go_end0
  exact ⟨rfl, rfl⟩

set_option maxRecDepth 100000 in
set_option maxHeartbeats 1000000 in
theorem pdq50_zero (a : Option Addr) (l : Int) (fv : Value) (w : World) : Calls Yba.prog 50 #[.slice a 0 0, .int .i64 0, .int .i64 0, .int .i64 l, fv] w fun e w' => e = .returned (.tuple #[]) ∧ w' = w := by
  go_enter Yba.func50, Yba.ntmps50
  go_wp2_with fail
  refine wp_loop_rounds 1 ?_
  rw [rounds_succ]
  go_wp2_with (first | (go_at_call 56; refine (ins56_zero _ _ _).mono ?_; rintro e w' ⟨rfl, rfl⟩))
  exact bodyPost_ret (results_none rfl _ _ _) rfl ⟨rfl, rfl⟩

set_option maxRecDepth 100000 in
set_option maxHeartbeats 1000000 in
theorem len51_zero (w : World) : Calls Yba.prog 51 #[.int .u64 0] w fun e w' => (∃ l, e = .returned (.int .i64 l)) ∧ w' = w := by
  go_enter Yba.func51, Yba.ntmps51
  go_wp2
  go_ret
  exact ⟨⟨_, rfl⟩, rfl⟩

set_option maxHeartbeats 400000 in
theorem sort34_zero (a : Option Addr) (fv : Value) (w : World) : Calls Yba.prog 34 #[.slice a 0 0, fv] w fun e w' => e = .returned (.tuple #[]) ∧ w' = w := by
  go_enter Yba.func34, Yba.ntmps34
  go_wp2_with (first | (go_at_call 51; refine (len51_zero _).mono ?_; rintro e w' ⟨⟨l, rfl⟩, rfl⟩) | (go_at_call 50; refine (pdq50_zero _ _ _ _).mono ?_; rintro e w' ⟨rfl, rfl⟩))
  go_end0
  exact ⟨rfl, rfl⟩

end Go.Proofs.Ybulkbik
