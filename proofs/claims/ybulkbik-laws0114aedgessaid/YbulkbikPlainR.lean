import Derived.Test.YbulkbikPlainA
/-! Law A, plain: which transaction reaches which. No Go here. -/
namespace Go.Proofs.Ybulkbik

/-- A way from i to j by nodes below k alone. -/
def Via (R : Nat → Nat → Prop) : Nat → Nat → Nat → Prop
  | 0, i, j => R i j
  | k + 1, i, j => Via R k i j ∨ (Via R k i k ∧ Via R k k j)

theorem via_to (R : Nat → Nat → Prop) (k i : Nat) : Via R (k + 1) i k ↔ Via R k i k := ⟨fun h => h.elim id And.left, .inl⟩
theorem via_from (R : Nat → Nat → Prop) (k j : Nat) : Via R (k + 1) k j ↔ Via R k k j := ⟨fun h => h.elim id And.right, .inl⟩

theorem via_up {R : Nat → Nat → Prop} {k m i j : Nat} (h : k ≤ m) (hv : Via R k i j) : Via R m i j := by
  induction m with
  | zero => rw [show k = 0 by omega] at hv; exact hv
  | succ m ih =>
    by_cases e : k = m + 1
    · rw [← e]; exact hv
    · exact .inl (ih (by omega))

theorem via_trans (R : Nat → Nat → Prop) : ∀ (k a c b : Nat), c < k → Via R k a c → Via R k c b → Via R k a b
  | 0, _, _, _, h, _, _ => absurd h (Nat.not_lt_zero _)
  | k + 1, a, c, b, h, h1, h2 => by
    by_cases e : c = k
    · subst e
      exact .inr ⟨(via_to R c a).1 h1, (via_from R c b).1 h2⟩
    · have hc : c < k := by omega
      rcases h1 with h1 | ⟨h1, h1'⟩
      · rcases h2 with h2 | ⟨h2, h2'⟩
        · exact .inl (via_trans R k a c b hc h1 h2)
        · exact .inr ⟨via_trans R k a c k hc h1 h2, h2'⟩
      · rcases h2 with h2 | ⟨_, h2'⟩
        · exact .inr ⟨h1, via_trans R k k c b hc h1' h2⟩
        · exact .inr ⟨h1, h2'⟩

/-- Whatever holds R and goes on by nodes below n holds the ways by nodes below n. -/
theorem via_min {R Q : Nat → Nat → Prop} {n : Nat} (hR : ∀ a b, R a b → Q a b) (ht : ∀ a c b, c < n → Q a c → Q c b → Q a b) : ∀ (k : Nat), k ≤ n → ∀ a b, Via R k a b → Q a b
  | 0, _, a, b, h => hR a b h
  | k + 1, hk, a, b, h => by
    rcases h with h | ⟨h1, h2⟩
    · exact via_min hR ht k (by omega) a b h
    · exact ht a k b (by omega) (via_min hR ht k (by omega) a k h1) (via_min hR ht k (by omega) k b h2)

theorem via_same {P R : Nat → Nat → Prop} {n : Nat} (h1 : ∀ a b, R a b → P a b) (h2 : ∀ a b, P a b → Via R n a b) (a b : Nat) : Via P n a b ↔ Via R n a b :=
  ⟨via_min h2 (fun a c b hc x y => via_trans R n a c b hc x y) n (Nat.le_refl _) a b, via_min (fun a b h => via_up (Nat.zero_le n) (h1 a b h)) (fun a c b hc x y => via_trans P n a c b hc x y) n (Nat.le_refl _) a b⟩

/-- Two accesses of an item conflict. -/
def Conf (x y : Nat) : Prop := x / 2 ≠ y / 2 ∧ (x % 2 = 1 ∨ y % 2 = 1)

/-- What the frontier knows of the accesses before: each leads to the last writer, or is a read since. -/
def FrInv (Q : Nat → Nat → Prop) (pre : List Nat) (f : Fr) : Prop :=
  ∀ y ∈ pre, (0 ≤ f.wr ∧ (f.wr = ((y / 2 : Nat) : Int) ∨ Q (y / 2) f.wr.toNat)) ∨ (y % 2 = 0 ∧ y / 2 ∈ f.rs)

theorem reach_one {Q : Nat → Nat → Prop} {n : Nat} (ht : ∀ a c b, c < n → Q a c → Q c b → Q a b) {pre : List Nat} {f : Fr} (hf : f.Ok n) (hi : FrInv Q pre f) {x : Nat} (he : ∀ e ∈ f.edges x, Q e.1 e.2) {y : Nat} (hy : y ∈ pre) (hc : Conf y x) : Q (y / 2) (x / 2) := by
  have h2 := hf.2.1
  rcases hi y hy with ⟨h0, hw⟩ | ⟨hr, hm⟩
  · have hn : f.wr.toNat < n := by omega
    have hq : f.wr ≠ ((x / 2 : Nat) : Int) → Q f.wr.toNat (x / 2) := fun hne => he (f.wr.toNat, x / 2) (by
      unfold Fr.edges
      rw [if_pos ⟨h0, hne⟩]
      simp)
    rcases hw with hw | hw
    · have hne : f.wr ≠ ((x / 2 : Nat) : Int) := by have := hc.1; omega
      have := hq hne
      rw [show f.wr.toNat = y / 2 by omega] at this
      exact this
    · by_cases hne : f.wr = ((x / 2 : Nat) : Int)
      · rw [show f.wr.toNat = x / 2 by omega] at hw
        exact hw
      · exact ht _ _ _ hn hw (hq hne)
  · have hx : x % 2 = 1 := by
      rcases hc.2 with h | h
      · omega
      · exact h
    refine he (y / 2, x / 2) ?_
    unfold Fr.edges
    rw [if_pos hx, List.mem_append]
    right
    simp only [List.mem_map, List.mem_filter, decide_eq_true_eq]
    exact ⟨y / 2, ⟨hm, hc.1⟩, rfl⟩

theorem reach_next {Q : Nat → Nat → Prop} {n : Nat} (ht : ∀ a c b, c < n → Q a c → Q c b → Q a b) {pre : List Nat} {f : Fr} (hf : f.Ok n) (hi : FrInv Q pre f) {x : Nat} (he : ∀ e ∈ f.edges x, Q e.1 e.2) : FrInv Q (pre ++ [x]) (f.add x) := by
  intro y hy
  rw [List.mem_append, List.mem_singleton] at hy
  unfold Fr.add
  by_cases hx : x % 2 = 1
  · rw [if_pos hx]
    left
    refine ⟨by simp; omega, ?_⟩
    rcases hy with hy | rfl
    · by_cases e : y / 2 = x / 2
      · left; simp; omega
      · right
        have := reach_one ht hf hi he hy ⟨e, .inr hx⟩
        rw [Int.toNat_natCast]
        exact this
    · left; rfl
  · rw [if_neg hx]
    rcases hy with hy | rfl
    · rcases hi y hy with h | ⟨h1, h2⟩
      · exact .inl h
      · exact .inr ⟨h1, by simp [h2]⟩
    · exact .inr ⟨by omega, by simp⟩

theorem reach_list {Q : Nat → Nat → Prop} {n : Nat} (ht : ∀ a c b, c < n → Q a c → Q c b → Q a b) : ∀ (l pre : List Nat) (f : Fr), f.Ok n → FrInv Q pre f → (∀ x ∈ l, x < 2 * n) → (∀ e ∈ listEdges f l, Q e.1 e.2) →
    ∀ q x, l[q]? = some x → ∀ y ∈ pre ++ l.take q, Conf y x → Q (y / 2) (x / 2)
  | [], _, _, _, _, _, _ => by intro q x h; simp at h
  | z :: l, pre, f, hf, hi, hl, he => by
    intro q x hq y hy hc
    have he1 : ∀ e ∈ f.edges z, Q e.1 e.2 := fun e h => he e (by rw [listEdges]; exact List.mem_append_left _ h)
    cases q with
    | zero =>
      simp at hq hy
      subst hq
      exact reach_one ht hf hi he1 hy hc
    | succ q =>
      refine reach_list ht l (pre ++ [z]) (f.add z) (hf.add (hl z (by simp))) (reach_next ht hf hi he1) (fun x hx => hl x (by simp [hx])) (fun e h => he e (by rw [listEdges]; exact List.mem_append_right _ h)) q x (by simpa using hq) y ?_ hc
      simpa using hy

/-- The full precedence, and the reduced edges. -/
def PrecR (ls : List (List Nat)) (a b : Nat) : Prop := ∃ l ∈ ls, ∃ p q x y : Nat, p < q ∧ l[p]? = some x ∧ l[q]? = some y ∧ Conf x y ∧ a = x / 2 ∧ b = y / 2
def EdgeR (E : List (Nat × Nat)) (a b : Nat) : Prop := (a, b) ∈ E

/-- Every reduced edge is one of the full precedence. -/
theorem edge_prec : ∀ (l pre : List Nat) (f : Fr), (0 ≤ f.wr → ∃ y ∈ pre, y % 2 = 1 ∧ f.wr = ((y / 2 : Nat) : Int)) → (∀ i ∈ f.rs, ∃ y ∈ pre, i = y / 2) → ∀ e ∈ listEdges f l, ∃ q x y, l[q]? = some y ∧ x ∈ pre ++ l.take q ∧ Conf x y ∧ e = (x / 2, y / 2)
  | [], _, _, _, _ => by simp [listEdges]
  | z :: l, pre, f, h1, h2 => by
    intro e he
    rw [listEdges, List.mem_append] at he
    rcases he with he | he
    · refine ⟨0, ?_⟩
      unfold Fr.edges at he
      rw [List.mem_append] at he
      rcases he with he | he
      · split at he
        · rename_i hw
          simp at he
          obtain ⟨y, hy, hy1, hy2⟩ := h1 hw.1
          refine ⟨y, z, rfl, by simpa using hy, ⟨?_, .inl hy1⟩, ?_⟩
          · have := hw.2; omega
          · rw [he]; simp; omega
        · simp at he
      · split at he
        · rename_i hz
          simp only [List.mem_map, List.mem_filter, decide_eq_true_eq] at he
          obtain ⟨i, ⟨hi, hne⟩, rfl⟩ := he
          obtain ⟨y, hy, rfl⟩ := h2 i hi
          exact ⟨y, z, rfl, by simpa using hy, ⟨hne, .inr hz⟩, rfl⟩
        · simp at he
    · obtain ⟨q, x, y, k1, k2, k3, k4⟩ := edge_prec l (pre ++ [z]) (f.add z) (by
        intro h0
        unfold Fr.add at h0 ⊢
        by_cases hz : z % 2 = 1
        · rw [if_pos hz]; exact ⟨z, by simp, hz, rfl⟩
        · rw [if_neg hz] at h0 ⊢
          obtain ⟨y, hy, hy1, hy2⟩ := h1 h0
          exact ⟨y, by simp [hy], hy1, hy2⟩) (by
        intro i hi
        unfold Fr.add at hi
        by_cases hz : z % 2 = 1
        · rw [if_pos hz] at hi; simp at hi
        · rw [if_neg hz] at hi
          simp at hi
          rcases hi with hi | rfl
          · obtain ⟨y, hy, rfl⟩ := h2 i hi
            exact ⟨y, by simp [hy], rfl⟩
          · exact ⟨z, by simp, rfl⟩) e he
      exact ⟨q + 1, x, y, by simpa using k1, by simpa using k2, k3, k4⟩

theorem edges_in_prec (ls : List (List Nat)) (a b : Nat) (h : EdgeR (edgesA ls) a b) : PrecR ls a b := by
  unfold EdgeR edgesA at h
  rw [List.mem_flatMap] at h
  obtain ⟨l, hl, he⟩ := h
  obtain ⟨q, x, y, k1, k2, k3, k4⟩ := edge_prec l [] Fr.zero (by intro h; simp [Fr.zero] at h) (by intro i hi; simp [Fr.zero] at hi) _ he
  simp at k2
  obtain ⟨p, hp⟩ := List.getElem?_of_mem k2
  have hpq : p < q := by
    have := (List.getElem?_eq_some_iff.1 hp).1
    simp at this
    omega
  rw [List.getElem?_take_of_lt hpq] at hp
  simp at k4
  exact ⟨l, hl, p, q, x, y, hpq, hp, k1, k3, k4.1, k4.2⟩

theorem prec_in_via {n : Nat} {ls : List (List Nat)} (hl : ∀ l ∈ ls, ∀ x ∈ l, x < 2 * n) (a b : Nat) (h : PrecR ls a b) : Via (EdgeR (edgesA ls)) n a b := by
  obtain ⟨l, hm, p, q, x, y, hpq, hp, hq, hc, rfl, rfl⟩ := h
  refine reach_list (Q := Via (EdgeR (edgesA ls)) n) (n := n) (fun a c b hc h1 h2 => via_trans _ n a c b hc h1 h2) l [] Fr.zero (Fr.ok_zero n) (by intro y hy; simp at hy) (hl l hm) (fun e he => via_up (Nat.zero_le n) ?_) q y hq x ?_ hc
  · show (e.1, e.2) ∈ edgesA ls
    unfold edgesA
    rw [List.mem_flatMap]
    exact ⟨l, hm, he⟩
  · rw [List.nil_append]
    exact List.mem_of_getElem? (i := p) (by rw [List.getElem?_take_of_lt hpq]; exact hp)

/-- One reaches another by the reduced edges just where it does by the full precedence. -/
theorem reach_same {n : Nat} {ls : List (List Nat)} (hl : ∀ l ∈ ls, ∀ x ∈ l, x < 2 * n) (a b : Nat) : Via (PrecR ls) n a b ↔ Via (EdgeR (edgesA ls)) n a b :=
  via_same (edges_in_prec ls) (prec_in_via hl) a b

end Go.Proofs.Ybulkbik
