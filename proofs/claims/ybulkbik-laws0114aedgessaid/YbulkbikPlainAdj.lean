import Derived.Test.YbulkbikBuildA
/-! Law A, plain: a list of pairs laid out node by node. -/
namespace Go.Proofs.Ybulkbik

/-- The second values of the pairs that begin at v, in order. -/
def succA (E : List (Nat × Nat)) (v : Nat) : List Nat := (E.filter (fun e => decide (e.1 = v))).map (·.2)
def cntA (E : List (Nat × Nat)) (v : Nat) : Nat := (succA E v).length
/-- Where v's list begins. -/
def stA (E : List (Nat × Nat)) (v : Nat) : Nat := sumTo (cntA E) v

theorem succA_append (E F : List (Nat × Nat)) (v : Nat) : succA (E ++ F) v = succA E v ++ succA F v := by simp [succA]

theorem succA_one (e : Nat × Nat) (v : Nat) : succA [e] v = if e.1 = v then [e.2] else [] := by
  unfold succA
  by_cases h : e.1 = v
  · rw [if_pos h, List.filter_cons_of_pos (by simpa using h)]; rfl
  · rw [if_neg h, List.filter_cons_of_neg (by simpa using h)]; rfl

theorem take_next {E : List (Nat × Nat)} {k : Nat} {e : Nat × Nat} (h : E[k]? = some e) : E.take (k + 1) = E.take k ++ [e] := by
  obtain ⟨hk, he⟩ := List.getElem?_eq_some_iff.1 h
  rw [List.take_succ_eq_append_getElem hk, he]

theorem split_at {E : List (Nat × Nat)} {k : Nat} {e : Nat × Nat} (h : E[k]? = some e) : E = E.take k ++ (e :: E.drop (k + 1)) := by
  obtain ⟨hk, he⟩ := List.getElem?_eq_some_iff.1 h
  rw [← he, ← List.drop_eq_getElem_cons hk, List.take_append_drop]

theorem cntA_next {E : List (Nat × Nat)} {k : Nat} {e : Nat × Nat} (h : E[k]? = some e) (v : Nat) : cntA (E.take (k + 1)) v = cntA (E.take k) v + if e.1 = v then 1 else 0 := by
  unfold cntA
  rw [take_next h, succA_append, succA_one, List.length_append]
  by_cases hv : e.1 = v
  · rw [if_pos hv, if_pos hv]; rfl
  · rw [if_neg hv, if_neg hv]; rfl

theorem cntA_take_le (E : List (Nat × Nat)) (k v : Nat) : cntA (E.take k) v ≤ cntA E v := by
  have : cntA E v = cntA (E.take k) v + cntA (E.drop k) v := by
    unfold cntA
    rw [← List.length_append, ← succA_append, List.take_append_drop]
  omega

theorem cntA_take_lt {E : List (Nat × Nat)} {k : Nat} {e : Nat × Nat} (h : E[k]? = some e) : cntA (E.take k) e.1 < cntA E e.1 := by
  have h1 := cntA_next h e.1
  have h2 := cntA_take_le E (k + 1) e.1
  rw [if_pos rfl] at h1
  omega

theorem succA_at {E : List (Nat × Nat)} {k : Nat} {e : Nat × Nat} (h : E[k]? = some e) : (succA E e.1)[cntA (E.take k) e.1]? = some e.2 := by
  have hs : succA E e.1 = succA (E.take k) e.1 ++ (e.2 :: succA (E.drop (k + 1)) e.1) := by
    conv => lhs; rw [split_at h]
    rw [succA_append, show e :: E.drop (k + 1) = [e] ++ E.drop (k + 1) from rfl, succA_append, succA_one, if_pos rfl]
    rfl
  unfold cntA
  rw [hs, List.getElem?_append_right (Nat.le_refl _)]
  simp

theorem sumTo_add (f g : Nat → Nat) (n : Nat) : sumTo (fun i => f i + g i) n = sumTo f n + sumTo g n := by
  induction n with
  | zero => rfl
  | succ n ih => simp only [sumTo, ih]; omega

theorem sumTo_congr {f g : Nat → Nat} {n : Nat} (h : ∀ i, i < n → f i = g i) : sumTo f n = sumTo g n := by
  induction n with
  | zero => rfl
  | succ n ih => simp only [sumTo]; rw [ih (fun i hi => h i (by omega)), h n (by omega)]

theorem sumTo_one (v n : Nat) : sumTo (fun i => if v = i then 1 else 0) n = if v < n then 1 else 0 := by
  induction n with
  | zero => rfl
  | succ n ih =>
    simp only [sumTo]
    rw [ih]
    by_cases h : v = n
    · subst h
      rw [if_neg (Nat.lt_irrefl _), if_pos rfl, if_pos (Nat.lt_succ_self _)]
    · rw [if_neg h]
      by_cases h2 : v < n
      · rw [if_pos h2, if_pos (by omega)]
      · rw [if_neg h2, if_neg (by omega)]

theorem stA_total {E : List (Nat × Nat)} {n : Nat} (h : ∀ e ∈ E, e.1 < n) : stA E n = E.length := by
  unfold stA
  induction E with
  | nil =>
    have : ∀ m, sumTo (cntA []) m = 0 := by
      intro m
      induction m with
      | zero => rfl
      | succ m ih => simp only [sumTo, ih]; rfl
    simpa using this n
  | cons e E ih =>
    have e1 : sumTo (cntA (e :: E)) n = sumTo (fun i => (if e.1 = i then 1 else 0) + cntA E i) n := sumTo_congr (fun i _ => by
      unfold cntA
      rw [show e :: E = [e] ++ E from rfl, succA_append, succA_one, List.length_append]
      by_cases hv : e.1 = i
      · rw [if_pos hv, if_pos hv]; rfl
      · rw [if_neg hv, if_neg hv]; rfl)
    rw [e1, sumTo_add, sumTo_one, if_pos (h e (by simp)), ih (fun x hx => h x (by simp [hx]))]
    simp; omega

theorem stA_succ (E : List (Nat × Nat)) (v : Nat) : stA E (v + 1) = stA E v + cntA E v := rfl
theorem stA_mono (E : List (Nat × Nat)) {u v : Nat} (h : u ≤ v) : stA E u ≤ stA E v := sumTo_mono _ h
theorem stA_end {E : List (Nat × Nat)} {n v : Nat} (h : ∀ e ∈ E, e.1 < n) (hv : v < n) : stA E v + cntA E v ≤ E.length := by
  have := stA_mono E (show v + 1 ≤ n from hv)
  rw [stA_total h, stA_succ] at this
  exact this

/-- The lists do not meet. -/
theorem stA_apart {E : List (Nat × Nat)} {u v i j : Nat} (hi : i < cntA E u) (hj : j < cntA E v) (h : stA E u + i = stA E v + j) : u = v ∧ i = j := by
  rcases Nat.lt_trichotomy u v with hl | hl | hl
  · have := stA_mono E (show u + 1 ≤ v from hl)
    rw [stA_succ] at this; omega
  · subst hl; omega
  · have := stA_mono E (show v + 1 ≤ u from hl)
    rw [stA_succ] at this; omega

end Go.Proofs.Ybulkbik
