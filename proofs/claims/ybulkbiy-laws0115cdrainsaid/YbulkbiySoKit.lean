import Derived.Test.YbulkbiyRows
import Derived.Sort.Walk13a
import Derived.Sort.WalkA
import Derived.CellFam
import Derived.BigGuard
import Derived.BigCall
import Derived.WalkKit
import Derived.WalkSpells
import Derived.WalkLawsBesides
import Derived.Deep.DeepCutAuto
import Derived.Deep.CutRange
import Derived.BigQuiet
/-! slices.Sort at []uint64, this program's own instantiation (functions 54, 66, 72 to 86): the family's common words. -/
namespace Go.Proofs.Ybulkbiy
open Go.RowKit Go.Sort

/-- A world of the sort's: the row at 'blk', 'off' holds d; all else of w0 as it was; new blocks behind it. -/
abbrev SI (w0 : World) (blk off : Nat) (d : Array Int) (W : World) : Prop := At (Value.int .u64) w0 blk off d W

/-- What the family is told of the row, once: in w0 it has n cells that hold uint64s, none of them frozen. -/
structure Bed (w0 : World) (blk off n : Nat) : Prop where
  row : ∃ d0 : Array Int, d0.size = n ∧ Holds (Value.int .u64) w0 blk off d0
  old : blk < w0.heap.size
  few : n < 4611686018427387904

section
variable {w0 W : World} {blk off n : Nat} {d : Array Int}

theorem SI.drawn (S : SI w0 blk off d W) (q : Nat) : SI w0 blk off d (W.drewN q) := At.ahead S q

theorem SI.laid (S : SI w0 blk off d W) (o : Obj) : SI w0 blk off d (W.alloc o) := by
  obtain ⟨m, os, rfl⟩ := S
  exact ⟨m, os ++ #[o], by rw [alloc_eq_grow, grow_grow]⟩

theorem SI.le (S : SI w0 blk off d W) : w0.heap.size ≤ W.heap.size := by
  obtain ⟨m, os, rfl⟩ := S
  rw [size_grow, size_putRow]
  exact Nat.le_add_right _ _

/-- A store into a block that is new against w0. -/
theorem SI.side (S : SI w0 blk off d W) (c o : Nat) (v : Value) (hc : w0.heap.size ≤ c) : SI w0 blk off d (W.setCell ⟨c, o, none⟩ v) := by
  obtain ⟨m, os, rfl⟩ := S
  exact ⟨m, _, by rw [setCell_eq, mapBlock_grow_new _ _ _ _ (by rw [size_putRow]; exact hc)]⟩

/-- The row's cells, under a name of their own. -/
theorem Bed.fam (B : Bed w0 blk off n) (S : SI w0 blk off d W) (hs : d.size = n) :
    ∃ G : Nat → Int, Hid (∀ t, G t = d[t]!) ∧ (∀ t, t < n → W.cell? ⟨blk, off + t, none⟩ = some (.int .u64 (G t))) ∧ (∀ t, t < n → W.frozen? ⟨blk, off + t, none⟩ = false) := by
  obtain ⟨d0, h0, hH⟩ := B.row
  have h := (S.holds hH (by omega) B.old).1
  exact ⟨fun t => d[t]!, fun _ => rfl, fun t ht => (h t (by omega)).1, fun t ht => (h t (by omega)).2⟩

/-- The two stores of an exchange. -/
theorem SI.swap (B : Bed w0 blk off n) (S : SI w0 blk off d W) (hs : d.size = n) {G : Nat → Int} (hG : ∀ t, G t = d[t]!) (i j : Nat) (hi : i < n) (hj : j < n) :
    SI w0 blk off (swp d i j) ((W.setCell ⟨blk, off + i, none⟩ (.int .u64 (G j))).setCell ⟨blk, off + j, none⟩ (.int .u64 (G i))) := by
  obtain ⟨m, os, rfl⟩ := S
  rw [hG, hG]
  refine ⟨m, os, ?_⟩
  rw [← putRow_grow _ _ os blk off d (by exact B.old), putRow_swp _ _ blk off d i j (by omega) (by omega), putRow_grow _ _ os blk off _ (by exact B.old)]
end

set_option maxHeartbeats 400000 in
theorem nan85 (x : Int) (w : World) : Calls Yba.prog 41 #[.int .u64 x] w fun e w' => e = .returned (.bool false) ∧ w' = w := by
  go_enter Yba.func41, Yba.ntmps41
  go_wp2
  go_ret
  simp

set_option maxHeartbeats 400000 in
/-- cmp.Less at uint64. -/
theorem less78 (x y : Int) (w : World) : Calls Yba.prog 31 #[.int .u64 x, .int .u64 y] w fun e w' => e = .returned (.bool (ltInt x y)) ∧ w' = w := by
  go_enter Yba.func31, Yba.ntmps31
  go_wp2_with (go_at_call 41; refine (nan85 _ _).mono ?_; rintro e w' ⟨rfl, rfl⟩)
  go_ret
  exact ⟨rfl, rfl⟩

end Go.Proofs.Ybulkbiy
