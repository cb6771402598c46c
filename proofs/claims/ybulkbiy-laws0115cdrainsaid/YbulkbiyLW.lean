import Derived.Test.YbulkbiyInsOld
import Derived.Deep.DeepCutAuto
import Derived.Deep.CutRange
/-! insert (11) at a leaf: a number that is new. -/
namespace Go.Proofs.Ybulkbiy
attribute [local go_sem ↓] Go.wp_at_zero Go.wp_at_succ
open Go.RowKit Go.Maps Go.Sort

/-- One leaf at work: its row (which shows rn, rv), its two arrays nu, va; the rest as in W. -/
structure LW (base : Nat) (W : World) (B : List Nat) (b : Nat) (rn rv nu va : Value) (m1 m2 : Nat) (ns vs : List Value) (fi sz : Int) (p n : Option Nat) (w : World) : Prop where
  row : w.rowIs b 32 7 (ndCell rn rv (.slice none 0 0) fi sz p n)
  nums : w.ownsRow base 23 1 nu m1 ns
  vals : w.ownsRow base 23 1 va m2 vs
  nn : ∀ k, nu.ownBlock = some k → (k ∈ B ∨ W.heap.size ≤ k) ∧ k ≠ b
  vv : ∀ k, va.ownBlock = some k → (k ∈ B ∨ W.heap.size ≤ k) ∧ k ≠ b
  nv : ∀ k, nu.ownBlock = some k → va.ownBlock ≠ some k
  keep : ∀ k, k < W.heap.size → k ∉ B → w.heap[k]? = W.heap[k]?
  bel : Below base W w
  size : W.heap.size ≤ w.heap.size
  bb : b ∈ B ∧ base ≤ b ∧ base ≤ W.heap.size

section
variable {base : Nat} {W : World} {B : List Nat} {b : Nat} {rn rv nu va : Value} {m1 m2 : Nat} {ns vs : List Value} {fi sz : Int} {p n : Option Nat} {w : World}

theorem LW.alloc (h : LW base W B b rn rv nu va m1 m2 ns vs fi sz p n w) (o : Obj) : LW base W B b rn rv nu va m1 m2 ns vs fi sz p n (w.alloc o) :=
  ⟨h.row.alloc o, h.nums.alloc o, h.vals.alloc o, h.nn, h.vv, h.nv, fun k hk hn => (Below.heap_alloc _ _ _ (Nat.lt_of_lt_of_le hk h.size)).trans (h.keep k hk hn), h.bel.alloc (Nat.le_trans h.bb.2.2 h.size) o, by simp; have := h.size; omega, h.bb⟩

theorem LW.drew (h : LW base W B b rn rv nu va m1 m2 ns vs fi sz p n w) : LW base W B b rn rv nu va m1 m2 ns vs fi sz p n w.drew :=
  ⟨h.row, own_same h.nums (fun _ _ => rfl), own_same h.vals (fun _ _ => rfl), h.nn, h.vv, h.nv, h.keep, below_drewNY h.bel 1, h.size, h.bb⟩

/-- The numbers' array turned (grown, moved in itself, set). -/
theorem LW.turnN (h : LW base W B b rn rv nu va m1 m2 ns vs fi sz p n w) {w' : World} {nu' : Value} {m1' : Nat} {ns' : List Value} (hg : w.grownBy w' nu.ownBlock) (hown : w'.ownsRow base 23 1 nu' m1' ns') (hat : nu'.ownBlock = nu.ownBlock ∨ nu'.ownBlock = some w.heap.size) :
    LW base W B b rn rv nu' va m1' m2 ns' vs fi sz p n w' := by
  have hb : some b ≠ nu.ownBlock := fun e => (h.nn b e.symm).2 rfl
  refine ⟨h.row.of_block (hg.block b h.row.lt hb), hown, own_same h.vals (fun k hk => hg.block k (h.vals.lt k hk).2 (fun e => h.nv k e.symm hk)), fun k hk => ?_, h.vv, fun k hk => ?_, fun k hk hn => ?_, ?_, Nat.le_trans h.size hg.size, h.bb⟩
  · rcases hat with e | e
    · exact h.nn k (e ▸ hk)
    · rw [e] at hk
      cases hk
      exact ⟨.inr h.size, by have := h.row.lt; omega⟩
  · rcases hat with e | e
    · exact h.nv k (e ▸ hk)
    · rw [e] at hk
      cases hk
      intro hv
      have := (h.vals.lt _ hv).2
      omega
  · refine (hg.block k (Nat.lt_of_lt_of_le hk h.size) (fun e => ?_)).trans (h.keep k hk hn)
    rcases (h.nn k e.symm).1 with h1 | h1
    · exact hn h1
    · omega
  · exact h.bel.grown hg (Nat.le_trans h.bb.2.2 h.size) (fun k hk => (h.nums.lt k hk).1)

theorem LW.turnV (h : LW base W B b rn rv nu va m1 m2 ns vs fi sz p n w) {w' : World} {va' : Value} {m2' : Nat} {vs' : List Value} (hg : w.grownBy w' va.ownBlock) (hown : w'.ownsRow base 23 1 va' m2' vs') (hat : va'.ownBlock = va.ownBlock ∨ va'.ownBlock = some w.heap.size) :
    LW base W B b rn rv nu va' m1 m2' ns vs' fi sz p n w' := by
  have hb : some b ≠ va.ownBlock := fun e => (h.vv b e.symm).2 rfl
  refine ⟨h.row.of_block (hg.block b h.row.lt hb), own_same h.nums (fun k hk => hg.block k (h.nums.lt k hk).2 (fun e => h.nv k hk e.symm)), hown, h.nn, fun k hk => ?_, fun k hk => ?_, fun k hk hn => ?_, ?_, Nat.le_trans h.size hg.size, h.bb⟩
  · rcases hat with e | e
    · exact h.vv k (e ▸ hk)
    · rw [e] at hk
      cases hk
      exact ⟨.inr h.size, by have := h.row.lt; omega⟩
  · intro hv
    rcases hat with e | e
    · exact h.nv k hk (e ▸ hv)
    · rw [e] at hv
      cases hv
      have := (h.nums.lt _ hk).2
      omega
  · refine (hg.block k (Nat.lt_of_lt_of_le hk h.size) (fun e => ?_)).trans (h.keep k hk hn)
    rcases (h.vv k e.symm).1 with h1 | h1
    · exact hn h1
    · omega
  · exact h.bel.grown hg (Nat.le_trans h.bb.2.2 h.size) (fun k hk => (h.vals.lt k hk).1)

/-- A cell of the leaf's row set. -/
theorem LW.set (h : LW base W B b rn rv nu va m1 m2 ns vs fi sz p n w) {i : Nat} {u : Value} {rn' rv' : Value} {fi' sz' : Int} {p' n' : Option Nat}
    (hc : ∀ k, k < 7 → (if k = i then u else ndCell rn rv (.slice none 0 0) fi sz p n k) = ndCell rn' rv' (.slice none 0 0) fi' sz' p' n' k) : LW base W B b rn' rv' nu va m1 m2 ns vs fi' sz' p' n' (w.setCell ⟨b, i, none⟩ u) :=
  ⟨(h.row.set i u).congr hc, own_same h.nums (fun k hk => Below.heap_setCell _ _ _ _ (h.nn k hk).2), own_same h.vals (fun k hk => Below.heap_setCell _ _ _ _ (h.vv k hk).2), h.nn, h.vv, h.nv,
    fun k hk hn => (Below.heap_setCell _ _ _ _ (fun e => hn (by rw [e]; exact h.bb.1))).trans (h.keep k hk hn), h.bel.setCell h.bb.2.1 _, by simpa using h.size, h.bb⟩

end

end Go.Proofs.Ybulkbiy
