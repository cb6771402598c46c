import Derived.KernelRfl
/-! The plain mathematics of 'reads' against its model: nothing of the program. -/
namespace Go.Proofs.Ybulkbik

/-- The greatest j below i at which p holds. -/
def lastBelow (p : Nat → Bool) : Nat → Option Nat
  | 0 => none
  | j + 1 => if p j = true then some j else lastBelow p j

theorem lastBelow_some {p : Nat → Bool} {i j : Nat} (h : lastBelow p i = some j) : j < i ∧ p j = true ∧ ∀ k, j < k → k < i → p k = false := by
  induction i with
  | zero => cases h
  | succ i ih =>
    unfold lastBelow at h
    split at h
    · rename_i hp
      cases h
      exact ⟨Nat.lt_succ_self _, hp, fun k h1 h2 => by omega⟩
    · rename_i hp
      obtain ⟨h1, h2, h3⟩ := ih h
      refine ⟨by omega, h2, fun k h4 h5 => ?_⟩
      by_cases e : k = i
      · subst e; simpa using hp
      · exact h3 k h4 (by omega)

theorem lastBelow_none {p : Nat → Bool} {i : Nat} (h : lastBelow p i = none) : ∀ k, k < i → p k = false := by
  induction i with
  | zero => intro k hk; omega
  | succ i ih =>
    unfold lastBelow at h
    split at h
    · cases h
    · rename_i hp
      intro k hk
      by_cases e : k = i
      · subst e; simpa using hp
      · exact ih h k (by omega)

theorem lastBelow_eq_none {p : Nat → Bool} {i : Nat} (h : ∀ k, k < i → p k = false) : lastBelow p i = none := by
  cases e : lastBelow p i with
  | none => rfl
  | some j =>
    obtain ⟨h1, h2, _⟩ := lastBelow_some e
    rw [h j h1] at h2
    cases h2

theorem lastBelow_eq_some {p : Nat → Bool} {i j : Nat} (hj : j < i) (hp : p j = true) (h : ∀ k, j < k → k < i → p k = false) : lastBelow p i = some j := by
  cases e : lastBelow p i with
  | none =>
    have := lastBelow_none e j hj
    rw [hp] at this
    cases this
  | some k =>
    obtain ⟨h1, h2, h3⟩ := lastBelow_some e
    by_cases e1 : k = j
    · rw [e1]
    · exfalso
      by_cases h4 : j < k
      · rw [h k h4 h1] at h2; cases h2
      · have := h3 j (by omega) hj
        rw [hp] at this; cases this

/-- What the law's model looks at. -/
structure BOps where
  n : Nat
  isW : Nat → Bool
  isR : Nat → Bool
  isA : Nat → Bool
  T : Nat → Int
  S : Nat → List UInt8

/-- The last abort of transaction t. -/
def abB (o : BOps) (t : Int) : Option Nat := lastBelow (fun k => o.isA k && decide (o.T k = t)) o.n
/-- The write j's transaction has aborted before operation i. -/
def deadB (o : BOps) (j i : Nat) : Bool := match abB o (o.T j) with
  | some k => decide (k < i)
  | none => false
def okB (o : BOps) (i j : Nat) : Bool := o.isW j && decide (o.S j = o.S i) && !deadB o j i
def firstB (o : BOps) (k : Nat) : Bool := decide (∀ k', k' < k → o.T k' ≠ o.T k)
def rankB (o : BOps) (t : Int) : Nat := (List.range o.n).countP (fun k => firstB o k && decide (o.T k < t))
/-- The writer that read i reads from. -/
def writerB (o : BOps) (i : Nat) : Int := match lastBelow (okB o i) i with
  | some j => (rankB o (o.T j) : Nat)
  | none => -1

theorem deadB_mono {o : BOps} {j i i' : Nat} (h : deadB o j i = true) (hi : i ≤ i') : deadB o j i' = true := by
  unfold deadB at *
  split at h
  · simp at h ⊢; omega
  · cases h

/-- All writes of item s from behind a up to 'top' are dead at i; a is such a write below top, or -1. -/
def LinkB (o : BOps) (i : Nat) (s : List UInt8) (a : Int) (top : Nat) : Prop :=
  (a = -1 ∨ ∃ m : Nat, a = m ∧ m < top ∧ o.isW m = true ∧ o.S m = s) ∧ ∀ j : Nat, j < top → a < (j : Int) → o.isW j = true → o.S j = s → deadB o j i = true

theorem LinkB.mono {o : BOps} {i i' : Nat} {s : List UInt8} {a : Int} {top : Nat} (h : LinkB o i s a top) (hi : i ≤ i') : LinkB o i' s a top :=
  ⟨h.1, fun j h1 h2 h3 h4 => deadB_mono (h.2 j h1 h2 h3 h4) hi⟩

/-- An operation that is no write of s. -/
theorem LinkB.grow {o : BOps} {i : Nat} {s : List UInt8} {a : Int} {top : Nat} (h : LinkB o i s a top) (hn : ¬ (o.isW top = true ∧ o.S top = s)) : LinkB o i s a (top + 1) := by
  refine ⟨?_, fun j h1 h2 h3 h4 => ?_⟩
  · rcases h.1 with e | ⟨m, e, h1, h2⟩
    · exact .inl e
    · exact .inr ⟨m, e, by omega, h2⟩
  · by_cases e : j = top
    · subst e; exact absurd ⟨h3, h4⟩ hn
    · exact h.2 j (by omega) h2 h3 h4

theorem LinkB.write {o : BOps} {i : Nat} {s : List UInt8} {top : Nat} (hw : o.isW top = true) (hs : o.S top = s) : LinkB o i s top (top + 1) :=
  ⟨.inr ⟨top, rfl, Nat.lt_succ_self _, hw, hs⟩, fun j h1 h2 _ _ => by omega⟩

/-- One step back over a dead write. -/
theorem LinkB.back {o : BOps} {i : Nat} {s : List UInt8} {m top : Nat} {e : Int} (h : LinkB o i s m top) (hd : deadB o m i = true) (hm : m < top) (he : LinkB o i s e m) : LinkB o i s e top := by
  refine ⟨?_, fun j h1 h2 h3 h4 => ?_⟩
  · rcases he.1 with e' | ⟨q, e', h1, h2⟩
    · exact .inl e'
    · exact .inr ⟨q, e', by omega, h2⟩
  · by_cases e1 : j = m
    · subst e1; exact hd
    · by_cases e2 : j < m
      · exact he.2 j e2 h2 h3 h4
      · exact h.2 j h1 (by omega) h3 h4

theorem LinkB.none {o : BOps} {i : Nat} (h : LinkB o i (o.S i) (-1) i) : writerB o i = -1 := by
  unfold writerB
  rw [lastBelow_eq_none]
  intro k hk
  unfold okB
  cases hw : o.isW k with
  | false => simp
  | true =>
    by_cases hs : o.S k = o.S i
    · rw [h.2 k hk (by omega) hw hs]; simp
    · simp [hs]

theorem LinkB.some {o : BOps} {i m : Nat} (h : LinkB o i (o.S i) m i) (hd : deadB o m i = false) : writerB o i = (rankB o (o.T m) : Nat) := by
  have hm : m < i ∧ o.isW m = true ∧ o.S m = o.S i := by
    rcases h.1 with e | ⟨q, e, h1, h2, h3⟩
    · omega
    · have : q = m := by omega
      subst this
      exact ⟨h1, h2, h3⟩
  unfold writerB
  rw [lastBelow_eq_some (j := m) hm.1 (by simp [okB, hm.2.1, hm.2.2, hd]) (fun k h1 h2 => ?_)]
  unfold okB
  cases hw : o.isW k with
  | false => simp
  | true =>
    by_cases hs : o.S k = o.S i
    · rw [h.2 k h2 (by omega) hw hs]; simp
    · simp [hs]

/-- The reads among the first i operations. -/
def readsB (o : BOps) (i : Nat) : List Nat := (List.range i).filter o.isR

theorem readsB_succ_yes (o : BOps) (i : Nat) (h : o.isR i = true) : readsB o (i + 1) = readsB o i ++ [i] := by
  unfold readsB; rw [List.range_succ, List.filter_append]; simp [h]
theorem readsB_succ_no (o : BOps) (i : Nat) (h : o.isR i = false) : readsB o (i + 1) = readsB o i := by
  unfold readsB; rw [List.range_succ, List.filter_append]; simp [h]
theorem readsB_le (o : BOps) (i : Nat) : (readsB o i).length ≤ i := by
  unfold readsB
  have := List.length_filter_le o.isR (List.range i)
  simpa using this
theorem readsB_lt (o : BOps) (i : Nat) : ∀ x ∈ readsB o i, x < i := by
  intro x hx
  unfold readsB at hx
  have := (List.mem_filter.1 hx).1
  simpa using this

end Go.Proofs.Ybulkbik
