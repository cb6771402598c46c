import Derived.Test.YbulkbiyRemJ
import Derived.Test.YbulkbiyBuild5
/-! walk (18). -/
namespace Go.Proofs.Ybulkbiy
attribute [local go_sem ↓] Go.wp_at_zero Go.wp_at_succ
open Go.RowKit Go.Maps Go.Sort

/-- What is gathered so far, behind the pointer o. -/
structure OutAt (W1 : World) (o : Nat) (v : Value) (ys : List Int) (w : World) : Prop where
  row : w.rowIs o 22 1 (fun _ => v)
  own : w.ownsRow W1.heap.size 23 1 v ys.length (ys.map (Value.int .u64))
  ne : v.ownBlock ≠ some o
  bel : Below W1.heap.size W1 w
  ob : W1.heap.size ≤ o

theorem OutAt.drewN {W1 : World} {o : Nat} {v : Value} {ys : List Int} {w : World} (h : OutAt W1 o v ys w) (q : Nat) : OutAt W1 o v ys (w.drewN q) :=
  ⟨h.row, own_same h.own (fun _ _ => rfl), h.ne, below_drewNY h.bel q, h.ob⟩

theorem OutAt.alloc {W1 : World} {o : Nat} {v : Value} {ys : List Int} {w : World} (h : OutAt W1 o v ys w) (ob : Obj) : OutAt W1 o v ys (w.alloc ob) :=
  ⟨h.row.alloc ob, h.own.alloc ob, h.ne, h.bel.alloc h.bel.size ob, h.ob⟩

theorem OutAt.turn {W1 : World} {o : Nat} {v v' : Value} {ys zs : List Int} {w w' : World} (h : OutAt W1 o v ys w) (hg : w.grownBy w' v.ownBlock) (hown : w'.ownsRow W1.heap.size 23 1 v' zs.length (zs.map (Value.int .u64))) (hat : v'.ownBlock = v.ownBlock ∨ v'.ownBlock = some w.heap.size) :
    OutAt W1 o v' zs (w'.setCell ⟨o, 0, none⟩ v') := by
  have hor : w'.rowIs o 22 1 (fun _ => v) := h.row.of_block (hg.block o h.row.lt (fun e => h.ne e.symm))
  have hne : v'.ownBlock ≠ some o := fun e => by
    rcases hat with e2 | e2
    · exact h.ne (e2.symm.trans e)
    · rw [e2] at e
      have := h.row.lt
      simp only [Option.some.injEq] at e
      omega
  refine ⟨(hor.set 0 v').congr (fun i hi => ?_), own_same hown (fun k hk => Below.heap_setCell _ _ _ _ (fun (e : k = o) => hne (e ▸ hk))), hne, (h.bel.grown hg h.bel.size (fun k hk => (h.own.lt k hk).1)).setCell h.ob _, h.ob⟩
  have : i = 0 := by omega
  subst this
  rfl

end Go.Proofs.Ybulkbiy
