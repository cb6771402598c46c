import Derived.Test.YbulkbiyLW
/-! A leaf at work: more of it. -/
namespace Go.Proofs.Ybulkbiy
attribute [local go_sem ↓] Go.wp_at_zero Go.wp_at_succ
open Go.RowKit Go.Maps Go.Sort

theorem nd_set0 (nu va ch : Value) (fi sz : Int) (p n : Option Nat) (x : Value) : ∀ k, k < 7 → (if k = 0 then x else ndCell nu va ch fi sz p n k) = ndCell x va ch fi sz p n k := by
  intro k hk
  match k, hk with
  | 0, _ => rfl
  | 1, _ => rfl
  | 2, _ => rfl
  | 3, _ => rfl
  | 4, _ => rfl
  | 5, _ => rfl
  | 6, _ => rfl

theorem nd_set1 (nu va ch : Value) (fi sz : Int) (p n : Option Nat) (x : Value) : ∀ k, k < 7 → (if k = 1 then x else ndCell nu va ch fi sz p n k) = ndCell nu x ch fi sz p n k := by
  intro k hk
  match k, hk with
  | 0, _ => rfl
  | 1, _ => rfl
  | 2, _ => rfl
  | 3, _ => rfl
  | 4, _ => rfl
  | 5, _ => rfl
  | 6, _ => rfl

theorem nd_set2 (nu va ch : Value) (fi sz : Int) (p n : Option Nat) (x : Value) : ∀ k, k < 7 → (if k = 2 then x else ndCell nu va ch fi sz p n k) = ndCell nu va x fi sz p n k := by
  intro k hk
  match k, hk with
  | 0, _ => rfl
  | 1, _ => rfl
  | 2, _ => rfl
  | 3, _ => rfl
  | 4, _ => rfl
  | 5, _ => rfl
  | 6, _ => rfl

theorem nd_set3 (nu va ch : Value) (fi sz : Int) (p n : Option Nat) (x : Int) : ∀ k, k < 7 → (if k = 3 then .int .u64 x else ndCell nu va ch fi sz p n k) = ndCell nu va ch x sz p n k := by
  intro k hk
  match k, hk with
  | 0, _ => rfl
  | 1, _ => rfl
  | 2, _ => rfl
  | 3, _ => rfl
  | 4, _ => rfl
  | 5, _ => rfl
  | 6, _ => rfl

theorem nd_set4 (nu va ch : Value) (fi sz : Int) (p n : Option Nat) (x : Int) : ∀ k, k < 7 → (if k = 4 then .int .i64 x else ndCell nu va ch fi sz p n k) = ndCell nu va ch fi x p n k := by
  intro k hk
  match k, hk with
  | 0, _ => rfl
  | 1, _ => rfl
  | 2, _ => rfl
  | 3, _ => rfl
  | 4, _ => rfl
  | 5, _ => rfl
  | 6, _ => rfl

theorem nd_set5 (nu va ch : Value) (fi sz : Int) (p n : Option Nat) (x : Option Nat) : ∀ k, k < 7 → (if k = 5 then ptrV x else ndCell nu va ch fi sz p n k) = ndCell nu va ch fi sz x n k := by
  intro k hk
  match k, hk with
  | 0, _ => rfl
  | 1, _ => rfl
  | 2, _ => rfl
  | 3, _ => rfl
  | 4, _ => rfl
  | 5, _ => rfl
  | 6, _ => rfl

theorem nd_set6 (nu va ch : Value) (fi sz : Int) (p n : Option Nat) (x : Option Nat) : ∀ k, k < 7 → (if k = 6 then ptrV x else ndCell nu va ch fi sz p n k) = ndCell nu va ch fi sz p x k := by
  intro k hk
  match k, hk with
  | 0, _ => rfl
  | 1, _ => rfl
  | 2, _ => rfl
  | 3, _ => rfl
  | 4, _ => rfl
  | 5, _ => rfl
  | 6, _ => rfl

section
variable {base : Nat} {W : World} {B : List Nat} {b : Nat} {rn rv nu va : Value} {m1 m2 : Nat} {ns vs : List Value} {fi sz : Int} {p n : Option Nat} {w : World}

theorem LW.below (h : LW base W B b rn rv nu va m1 m2 ns vs fi sz p n w) {w' : World} (hb : Below w.heap.size w w') : LW base W B b rn rv nu va m1 m2 ns vs fi sz p n w' :=
  ⟨h.row.of_block (hb.block _ h.row.lt), own_same h.nums (fun k hk => hb.block _ (h.nums.lt k hk).2), own_same h.vals (fun k hk => hb.block _ (h.vals.lt k hk).2), h.nn, h.vv, h.nv, fun k hk hn => (hb.block _ (Nat.lt_of_lt_of_le hk h.size)).trans (h.keep k hk hn), h.bel.trans (hb.mono (Nat.le_trans h.bb.2.2 h.size)), Nat.le_trans h.size hb.size, h.bb⟩

theorem LW.base_le (h : LW base W B b rn rv nu va m1 m2 ns vs fi sz p n w) : base ≤ w.heap.size := Nat.le_trans h.bb.2.2 h.size

theorem LW.set0 (h : LW base W B b rn rv nu va m1 m2 ns vs fi sz p n w) (u : Value) : LW base W B b u rv nu va m1 m2 ns vs fi sz p n (w.setCell ⟨b, 0, none⟩ u) := h.set (nd_set0 _ _ _ _ _ _ _ _)
theorem LW.set1 (h : LW base W B b rn rv nu va m1 m2 ns vs fi sz p n w) (u : Value) : LW base W B b rn u nu va m1 m2 ns vs fi sz p n (w.setCell ⟨b, 1, none⟩ u) := h.set (nd_set1 _ _ _ _ _ _ _ _)
theorem LW.set3 (h : LW base W B b rn rv nu va m1 m2 ns vs fi sz p n w) (u : Int) : LW base W B b rn rv nu va m1 m2 ns vs u sz p n (w.setCell ⟨b, 3, none⟩ (.int .u64 u)) := h.set (nd_set3 _ _ _ _ _ _ _ _)
theorem LW.set4 (h : LW base W B b rn rv nu va m1 m2 ns vs fi sz p n w) (u : Int) : LW base W B b rn rv nu va m1 m2 ns vs fi u p n (w.setCell ⟨b, 4, none⟩ (.int .i64 u)) := h.set (nd_set4 _ _ _ _ _ _ _ _)
theorem LW.set6 (h : LW base W B b rn rv nu va m1 m2 ns vs fi sz p n w) (u : Option Nat) : LW base W B b rn rv nu va m1 m2 ns vs fi sz p u (w.setCell ⟨b, 6, none⟩ (ptrV u)) := h.set (nd_set6 _ _ _ _ _ _ _ _)

theorem LW.facts (h : LW base W B b rn rv nu va m1 m2 ns vs fi sz p n w) : w.cell? ⟨b, 0, none⟩ = some rn ∧ w.cell? ⟨b, 1, none⟩ = some rv ∧ w.frozen? ⟨b, 0, none⟩ = false ∧ w.frozen? ⟨b, 1, none⟩ = false ∧ b < w.heap.size :=
  ⟨h.row.cell (i := 0) (by omega), h.row.cell (i := 1) (by omega), h.row.frozen 0, h.row.frozen 1, h.row.lt⟩

theorem LW.facts2 (h : LW base W B b rn rv nu va m1 m2 ns vs fi sz p n w) : w.cell? ⟨b, 3, none⟩ = some (.int .u64 fi) ∧ w.cell? ⟨b, 4, none⟩ = some (.int .i64 sz) ∧ w.frozen? ⟨b, 3, none⟩ = false ∧ w.frozen? ⟨b, 4, none⟩ = false :=
  ⟨h.row.cell (i := 3) (by omega), h.row.cell (i := 4) (by omega), h.row.frozen 3, h.row.frozen 4⟩

theorem cell_grown {w w' : World} {o : Option Nat} {g i : Nat} {u : Value} (hg : w.grownBy w' o) (hne : some g ≠ o) (h : w.cell? ⟨g, i, none⟩ = some u) : w'.cell? ⟨g, i, none⟩ = some u := by
  have hlt := World.block_lt_of_cell? w _ h
  rw [← h]
  unfold World.cell?
  rw [hg.block g hlt hne]

theorem one_news {w : World} {g : Nat} {u : Value} (h : w.cell? ⟨g, 0, none⟩ = some u) : ∀ (j : Nat) (x : Value), [u][j]? = some x → w.cell? ((⟨g, 0, none⟩ : Addr).add j) = some x := by
  intro j x hj
  match j with
  | 0 =>
    simp only [List.getElem?_cons_zero, Option.some.injEq] at hj
    subst hj
    rw [Addr.add_lit]
    exact h
  | j + 1 => simp at hj
end

end Go.Proofs.Ybulkbiy
