import Derived.Test.YbulkbiyLW2
/-! One inner node at work: its row (which shows rc) and its array of children ch; the rest as in W. -/
namespace Go.Proofs.Ybulkbiy
attribute [local go_sem ↓] Go.wp_at_zero Go.wp_at_succ
open Go.RowKit Go.Maps Go.Sort

structure IW (base : Nat) (W : World) (B : List Nat) (b : Nat) (nu va rc ch : Value) (m : Nat) (cs : List Value) (fi sz : Int) (p n : Option Nat) (w : World) : Prop where
  row : w.rowIs b 32 7 (ndCell nu va rc fi sz p n)
  kids : w.ownsRow base 24 1 ch m cs
  kk : ∀ k, ch.ownBlock = some k → (k ∈ B ∨ W.heap.size ≤ k) ∧ k ≠ b
  keep : ∀ k, k < W.heap.size → k ∉ B → w.heap[k]? = W.heap[k]?
  bel : Below base W w
  size : W.heap.size ≤ w.heap.size
  bb : b ∈ B ∧ base ≤ b ∧ base ≤ W.heap.size

section
variable {base : Nat} {W : World} {B : List Nat} {b : Nat} {nu va rc ch : Value} {m : Nat} {cs : List Value} {fi sz : Int} {p n : Option Nat} {w : World}

theorem IW.alloc (h : IW base W B b nu va rc ch m cs fi sz p n w) (o : Obj) : IW base W B b nu va rc ch m cs fi sz p n (w.alloc o) :=
  ⟨h.row.alloc o, h.kids.alloc o, h.kk, fun k hk hn => (Below.heap_alloc _ _ _ (Nat.lt_of_lt_of_le hk h.size)).trans (h.keep k hk hn), h.bel.alloc (Nat.le_trans h.bb.2.2 h.size) o, by simp; have := h.size; omega, h.bb⟩

theorem IW.drew (h : IW base W B b nu va rc ch m cs fi sz p n w) : IW base W B b nu va rc ch m cs fi sz p n w.drew :=
  ⟨h.row, own_same h.kids (fun _ _ => rfl), h.kk, h.keep, below_drewNY h.bel 1, h.size, h.bb⟩

theorem IW.below (h : IW base W B b nu va rc ch m cs fi sz p n w) {w' : World} (hb : Below w.heap.size w w') : IW base W B b nu va rc ch m cs fi sz p n w' :=
  ⟨h.row.of_block (hb.block _ h.row.lt), own_same h.kids (fun k hk => hb.block _ (h.kids.lt k hk).2), h.kk, fun k hk hn => (hb.block _ (Nat.lt_of_lt_of_le hk h.size)).trans (h.keep k hk hn), h.bel.trans (hb.mono (Nat.le_trans h.bb.2.2 h.size)), Nat.le_trans h.size hb.size, h.bb⟩

theorem IW.base_le (h : IW base W B b nu va rc ch m cs fi sz p n w) : base ≤ w.heap.size := Nat.le_trans h.bb.2.2 h.size

theorem IW.turn (h : IW base W B b nu va rc ch m cs fi sz p n w) {w' : World} {ch' : Value} {m' : Nat} {cs' : List Value} (hg : w.grownBy w' ch.ownBlock) (hown : w'.ownsRow base 24 1 ch' m' cs') (hat : ch'.ownBlock = ch.ownBlock ∨ ch'.ownBlock = some w.heap.size) :
    IW base W B b nu va rc ch' m' cs' fi sz p n w' := by
  have hb : some b ≠ ch.ownBlock := fun e => (h.kk b e.symm).2 rfl
  refine ⟨h.row.of_block (hg.block b h.row.lt hb), hown, fun k hk => ?_, fun k hk hn => ?_, ?_, Nat.le_trans h.size hg.size, h.bb⟩
  · rcases hat with e | e
    · exact h.kk k (e ▸ hk)
    · rw [e] at hk
      cases hk
      exact ⟨.inr h.size, by have := h.row.lt; omega⟩
  · refine (hg.block k (Nat.lt_of_lt_of_le hk h.size) (fun e => ?_)).trans (h.keep k hk hn)
    rcases (h.kk k e.symm).1 with h1 | h1
    · exact hn h1
    · omega
  · exact h.bel.grown hg (Nat.le_trans h.bb.2.2 h.size) (fun k hk => (h.kids.lt k hk).1)

theorem IW.set (h : IW base W B b nu va rc ch m cs fi sz p n w) {i : Nat} {u : Value} {nu' va' rc' : Value} {fi' sz' : Int} {p' n' : Option Nat}
    (hc : ∀ k, k < 7 → (if k = i then u else ndCell nu va rc fi sz p n k) = ndCell nu' va' rc' fi' sz' p' n' k) : IW base W B b nu' va' rc' ch m cs fi' sz' p' n' (w.setCell ⟨b, i, none⟩ u) :=
  ⟨(h.row.set i u).congr hc, own_same h.kids (fun k hk => Below.heap_setCell _ _ _ _ (h.kk k hk).2), h.kk,
    fun k hk hn => (Below.heap_setCell _ _ _ _ (fun e => hn (by rw [e]; exact h.bb.1))).trans (h.keep k hk hn), h.bel.setCell h.bb.2.1 _, by simpa using h.size, h.bb⟩

theorem IW.set2 (h : IW base W B b nu va rc ch m cs fi sz p n w) (u : Value) : IW base W B b nu va u ch m cs fi sz p n (w.setCell ⟨b, 2, none⟩ u) := h.set (nd_set2 _ _ _ _ _ _ _ _)
theorem IW.set3 (h : IW base W B b nu va rc ch m cs fi sz p n w) (u : Int) : IW base W B b nu va rc ch m cs u sz p n (w.setCell ⟨b, 3, none⟩ (.int .u64 u)) := h.set (nd_set3 _ _ _ _ _ _ _ _)
theorem IW.set4 (h : IW base W B b nu va rc ch m cs fi sz p n w) (u : Int) : IW base W B b nu va rc ch m cs fi u p n (w.setCell ⟨b, 4, none⟩ (.int .i64 u)) := h.set (nd_set4 _ _ _ _ _ _ _ _)

theorem IW.facts (h : IW base W B b nu va rc ch m cs fi sz p n w) : w.cell? ⟨b, 2, none⟩ = some rc ∧ w.cell? ⟨b, 3, none⟩ = some (.int .u64 fi) ∧ w.cell? ⟨b, 4, none⟩ = some (.int .i64 sz) ∧ w.frozen? ⟨b, 2, none⟩ = false ∧ w.frozen? ⟨b, 3, none⟩ = false ∧ w.frozen? ⟨b, 4, none⟩ = false ∧ b < w.heap.size :=
  ⟨h.row.cell (i := 2) (by omega), h.row.cell (i := 3) (by omega), h.row.cell (i := 4) (by omega), h.row.frozen 2, h.row.frozen 3, h.row.frozen 4, h.row.lt⟩

end

end Go.Proofs.Ybulkbiy
