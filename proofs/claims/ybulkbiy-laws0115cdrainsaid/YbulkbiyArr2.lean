import Derived.Test.YbulkbiyArr
namespace Go.Proofs.Ybulkbiy
open Go.RowKit Go.Maps Go.Sort

theorem grownBy_setCellY (w : World) (g i : Nat) (u : Value) : w.grownBy (w.setCell ⟨g, i, none⟩ u) (some g) :=
  ⟨rfl, rfl, rfl, by simp, fun k _ hne => Below.heap_setCell _ _ _ _ (fun e => hne (by rw [e]))⟩

theorem own_setCells {base e n cap g m : Nat} : ∀ (vs : List Value) (o : Nat) (w : World) (xs : List Value), m ≤ o → w.ownsRow base e 1 (.slice (some ⟨g, 0, none⟩) n cap) n xs →
    (∃ ys, (w.setCells g o vs).ownsRow base e 1 (.slice (some ⟨g, 0, none⟩) n cap) n ys ∧ ys.take m = xs.take m) ∧ w.grownBy (w.setCells g o vs) (some g)
  | [], o, w, xs, _, h => ⟨⟨xs, h, rfl⟩, ⟨rfl, rfl, rfl, Nat.le_refl _, fun _ _ _ => rfl⟩⟩
  | v :: vs, o, w, xs, hm, h => by
    obtain ⟨⟨ys, h1, h2⟩, h3⟩ := own_setCells (m := m) vs (o + 1) (w.setCell ⟨g, o, none⟩ v) (xs.set o v) (by omega) (own_set h v)
    refine ⟨⟨ys, h1, ?_⟩, (grownBy_setCellY w g o v).trans h3⟩
    rw [h2, List.take_set_of_le hm]

/-- clear(v[m:]) on a row of the call's own. -/
theorem wpList_clear_own {P : Program} {w : World} {ops : Array Oper} {rest : List Oper} {o : Oper} {a : Act} {Q : Exit → Act → World → Prop} (hgd : o.guard = none) (s : Operand) (t : TypeId)
    (ho : o.op = .call { callee := .builtin .clear, args := #[s], argTypes := #[t] }) (e : TypeId) (z : Value) (ht : P.underlying t = some (.slice e)) (hv : ∀ w, (zeroValue e).run P w = .ok z w) (hz : z.cells = #[z]) (h1 : z.oneCell' = true)
    (base g n cap m c : Nat) (xs : List Value) (hs : a.eval s = .slice (some ⟨g, m, none⟩) (n - m) c) (hm : m < n) (hown : w.ownsRow base e 1 (.slice (some ⟨g, 0, none⟩) n cap) n xs)
    (h : ∀ w', Hid (∃ ys, w'.ownsRow base e 1 (.slice (some ⟨g, 0, none⟩) n cap) n ys ∧ ys.take m = xs.take m) → w.grownBy w' (some g) → wpList P ops Q rest (a.put o.dst (.tuple #[])) w') :
    wpList P ops Q (o :: rest) a w := by
  refine wpList_plain hgd fun K hK => ?_
  have hl := hown.1
  have hrun := Lib.run_clear_slice (P := P) w t e o.type z ht hv hz h1 g m (n - m) c (by omega)
    (fun j hj => by
      have := hown.cells (g := g) rfl (m + j) xs[m + j] (List.getElem?_eq_getElem (by omega))
      rw [Addr.add_lit, Nat.zero_add] at this
      rw [this]; rfl)
    (fun j hj => by
      rcases hown.2 with ⟨hx, _⟩ | ⟨g', cap', cur, hv', hb, hg, _⟩
      · simp at hx
      · simp only [Value.slice.injEq, Option.some.injEq, Addr.mk.injEq, true_and, and_true] at hv'
        obtain ⟨rfl, rfl⟩ := hv'
        simp [World.frozen?, hg])
  obtain ⟨k1, k2⟩ := own_setCells (m := m) (List.replicate (n - m) z) m w xs (Nat.le_refl _) hown
  unfold Oper.wp
  simp [execOp, ho, resolve, invoke, builtin, hs, hrun, Result.andThen]
  exact hK _ _ (h _ k1 k2)

end Go.Proofs.Ybulkbiy
