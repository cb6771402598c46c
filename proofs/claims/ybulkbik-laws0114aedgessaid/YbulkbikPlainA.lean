/-! Law A, plain: the reduced edges. No Go here. -/
namespace Go.Proofs.Ybulkbik

/-- The frontier along one item: the last writer (-1: none), the readers since. -/
structure Fr where
  wr : Int
  rs : List Nat

def Fr.zero : Fr := ⟨-1, []⟩

/-- The edges that access x gives. -/
def Fr.edges (f : Fr) (x : Nat) : List (Nat × Nat) :=
  (if 0 ≤ f.wr ∧ f.wr ≠ ((x / 2 : Nat) : Int) then [(f.wr.toNat, x / 2)] else []) ++ (if x % 2 = 1 then (f.rs.filter (fun i => decide (i ≠ x / 2))).map (fun i => (i, x / 2)) else [])

def Fr.add (f : Fr) (x : Nat) : Fr := if x % 2 = 1 then ⟨((x / 2 : Nat) : Int), []⟩ else ⟨f.wr, f.rs ++ [x / 2]⟩

def listEdges : Fr → List Nat → List (Nat × Nat)
  | _, [] => []
  | f, x :: xs => f.edges x ++ listEdges (f.add x) xs

def edgesA (ls : List (List Nat)) : List (Nat × Nat) := ls.flatMap (listEdges Fr.zero)

/-- A frontier over transactions below n. -/
def Fr.Ok (f : Fr) (n : Nat) : Prop := -1 ≤ f.wr ∧ f.wr < n ∧ ∀ i ∈ f.rs, i < n

theorem Fr.ok_zero (n : Nat) : Fr.zero.Ok n := ⟨by simp [Fr.zero], by simp [Fr.zero]; omega, by simp [Fr.zero]⟩

theorem Fr.Ok.add {f : Fr} {n x : Nat} (h : f.Ok n) (hx : x < 2 * n) : (f.add x).Ok n := by
  have hj : x / 2 < n := by omega
  unfold Fr.add
  split
  · exact ⟨by simp; omega, by simp; omega, by simp⟩
  · refine ⟨h.1, h.2.1, ?_⟩
    intro i hi
    simp at hi
    rcases hi with hi | rfl
    · exact h.2.2 i hi
    · exact hj

theorem Fr.Ok.edges {f : Fr} {n x : Nat} (h : f.Ok n) (hx : x < 2 * n) : ∀ e ∈ f.edges x, e.1 < n ∧ e.2 < n := by
  have hj : x / 2 < n := by omega
  have h1 := h.1
  have h2 := h.2.1
  intro e he
  unfold Fr.edges at he
  rw [List.mem_append] at he
  rcases he with he | he
  · split at he
    · simp at he; subst he; exact ⟨by simp; omega, hj⟩
    · simp at he
  · split at he
    · simp at he
      obtain ⟨i, hi, rfl⟩ := he
      exact ⟨h.2.2 i hi.1, hj⟩
    · simp at he

theorem listEdges_lt {n : Nat} : ∀ (l : List Nat) (f : Fr), f.Ok n → (∀ x ∈ l, x < 2 * n) → ∀ e ∈ listEdges f l, e.1 < n ∧ e.2 < n
  | [], _, _, _ => by simp [listEdges]
  | x :: xs, f, hf, hl => by
    intro e he
    rw [listEdges, List.mem_append] at he
    rcases he with he | he
    · exact hf.edges (hl x (by simp)) e he
    · exact listEdges_lt xs _ (hf.add (hl x (by simp))) (fun y hy => hl y (by simp [hy])) e he

theorem edgesA_lt {n : Nat} {ls : List (List Nat)} (h : ∀ l ∈ ls, ∀ x ∈ l, x < 2 * n) : ∀ e ∈ edgesA ls, e.1 < n ∧ e.2 < n := by
  intro e he
  unfold edgesA at he
  rw [List.mem_flatMap] at he
  obtain ⟨l, hl, he⟩ := he
  exact listEdges_lt l _ (Fr.ok_zero n) (h l hl) e he

/-- An access gives one edge of the first kind at most, a read one of the second. -/
theorem listEdges_len : ∀ (l : List Nat) (f : Fr), (listEdges f l).length ≤ f.rs.length + 2 * l.length
  | [], f => by simp [listEdges]
  | x :: xs, f => by
    have ih := listEdges_len xs (f.add x)
    rw [listEdges, List.length_append]
    have h1 : (if 0 ≤ f.wr ∧ f.wr ≠ ((x / 2 : Nat) : Int) then [(f.wr.toNat, x / 2)] else []).length ≤ 1 := by split <;> simp
    have h3 : (f.rs.filter (fun i => decide (i ≠ x / 2))).length ≤ f.rs.length := List.length_filter_le _ _
    unfold Fr.edges
    rw [List.length_append]
    simp only [List.length_cons]
    by_cases hx : x % 2 = 1
    · have e : (f.add x).rs.length = 0 := by simp [Fr.add, hx]
      rw [if_pos hx, List.length_map]
      omega
    · have e : (f.add x).rs.length = f.rs.length + 1 := by simp [Fr.add, hx]
      rw [if_neg hx, List.length_nil]
      omega

theorem edgesA_len (ls : List (List Nat)) : (edgesA ls).length ≤ 2 * (ls.map List.length).sum := by
  induction ls with
  | nil => simp [edgesA]
  | cons l ls ih =>
    have := listEdges_len l Fr.zero
    simp only [edgesA, List.flatMap_cons, List.length_append, List.map_cons, List.sum_cons] at ih ⊢
    simp [Fr.zero] at this
    have e : (listEdges Fr.zero l).length = (listEdges { wr := -1, rs := [] } l).length := rfl
    omega

end Go.Proofs.Ybulkbik
