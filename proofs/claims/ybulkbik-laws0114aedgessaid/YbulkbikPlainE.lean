import Derived.Test.YbulkbikLawAR
/-! Law AEdges, plain: the successors as the law's model reckons them. -/
namespace Go.Proofs.Ybulkbik

theorem asc_eq : ∀ (l m : List Int), l.Pairwise (· < ·) → m.Pairwise (· < ·) → (∀ x, x ∈ l ↔ x ∈ m) → l = m
  | [], [], _, _, _ => rfl
  | [], y :: m, _, _, h => absurd ((h y).2 (by simp)) (by simp)
  | x :: l, [], _, _, h => absurd ((h x).1 (by simp)) (by simp)
  | x :: l, y :: m, hl, hm, h => by
    rw [List.pairwise_cons] at hl hm
    have e : x = y := by
      have h1 := (h x).1 (by simp)
      have h2 := (h y).2 (by simp)
      rw [List.mem_cons] at h1 h2
      rcases h1 with h1 | h1
      · exact h1
      · rcases h2 with h2 | h2
        · exact h2.symm
        · have := hm.1 x h1
          have := hl.1 y h2
          omega
    subst e
    have e2 : l = m := by
      refine asc_eq l m hl.2 hm.2 (fun z => ⟨fun hz => ?_, fun hz => ?_⟩)
      · have := (h z).1 (by simp [hz])
        rw [List.mem_cons] at this
        rcases this with rfl | this
        · have := hl.1 z hz; omega
        · exact this
      · have := (h z).2 (by simp [hz])
        rw [List.mem_cons] at this
        rcases this with rfl | this
        · have := hm.1 z hz; omega
        · exact this
    rw [e2]

theorem compact_asc {d : Array Int} {m : Nat} (hs : ∀ i j, i ≤ j → j < m → d[i]! ≤ d[j]!) : (Lib.compactUpTo d m).Pairwise (· < ·) := by
  unfold Lib.compactUpTo
  rw [List.pairwise_map]
  refine (List.Pairwise.filter _ List.pairwise_lt_range).imp_of_mem ?_
  intro i j _ hj hij
  rw [List.mem_filter, List.mem_range] at hj
  have hk := hj.2
  simp only [Lib.keeps, decide_eq_true_eq] at hk
  rcases hk with hk | hk
  · omega
  · have h1 := hs i (j - 1) (by omega) (by omega)
    have h2 := hs (j - 1) j (by omega) hj.1
    omega

theorem csA_asc (E : List (Nat × Nat)) (v : Nat) : (csA E v).Pairwise (· < ·) := by
  unfold csA Lib.compact
  refine compact_asc ?_
  have hp : (((succA E v).map fun u : Nat => (u : Int)).mergeSort fun x y => decide (x ≤ y)).Pairwise (fun a b => decide (a ≤ b) = true) :=
    List.pairwise_mergeSort (fun a b c h1 h2 => by simp at *; omega) (fun a b => by simp; omega) _
  generalize (((succA E v).map fun u : Nat => (u : Int)).mergeSort fun x y => decide (x ≤ y)) = l at hp
  intro i j hij hj
  have hj' : j < l.length := by simpa using hj
  rw [getElem!_pos _ i (by simp; omega), getElem!_pos _ j (by simp; omega)]
  simp only [List.getElem_toArray]
  by_cases e : i = j
  · subst e; exact Int.le_refl _
  · have := List.pairwise_iff_getElem.1 hp i j (by omega) hj' (by omega)
    simpa using this

/-- What the law's model wants of node v, of the first w nodes. -/
def wantK (M : Nat → Nat → Bool) (v w : Nat) : List Int := ((List.range w).filter (fun u => M v u)).map (fun u : Nat => (u : Int))

theorem wantK_yes {M : Nat → Nat → Bool} {v w : Nat} (h : M v w = true) : wantK M v (w + 1) = wantK M v w ++ [(w : Int)] := by
  unfold wantK
  rw [List.range_succ, List.filter_append, List.map_append]
  simp [h]

theorem wantK_no {M : Nat → Nat → Bool} {v w : Nat} (h : M v w = false) : wantK M v (w + 1) = wantK M v w := by
  unfold wantK
  rw [List.range_succ, List.filter_append, List.map_append]
  simp [h]

theorem wantK_len (M : Nat → Nat → Bool) (v w : Nat) : (wantK M v w).length ≤ w := by
  unfold wantK
  rw [List.length_map]
  exact Nat.le_trans (List.length_filter_le _ _) (by simp)

theorem wantK_all {M : Nat → Nat → Bool} {E : List (Nat × Nat)} {n v : Nat} (hM : MB M (fun a b => (a, b) ∈ E)) (hE : ∀ e ∈ E, e.1 < n ∧ e.2 < n) (hn : n ≤ 8) (hv : v < n) : wantK M v n = csA E v := by
  refine asc_eq _ _ ?_ (csA_asc E v) (fun x => ?_)
  · unfold wantK
    rw [List.pairwise_map]
    rw [List.pairwise_iff_getElem]
    intro i j hi hj hij
    have h2 := List.pairwise_iff_getElem.1 (List.Pairwise.filter _ List.pairwise_lt_range) i j hi hj hij
    omega
  · rw [csA_mem]
    unfold wantK
    simp only [List.mem_map, List.mem_filter, List.mem_range]
    constructor
    · rintro ⟨u, ⟨hu, hm⟩, rfl⟩
      exact ⟨u, (hM v u (by omega) (by omega)).1 hm, rfl⟩
    · rintro ⟨u, hu, rfl⟩
      have := (hE _ hu).2
      simp only [] at this
      exact ⟨u, ⟨this, (hM v u (by omega) (by omega)).2 hu⟩, rfl⟩

/-- The truth values say just who is in the list. -/
def RB (R : Nat → Bool) (S : Nat → Prop) : Prop := ∀ i, i < 8 → (R i = true ↔ S i)

theorem mem_rdEdges {rs : List Nat} {j a b : Nat} : (a, b) ∈ rdEdges rs j ↔ a ∈ rs ∧ a ≠ j ∧ b = j := by
  unfold rdEdges
  simp only [List.mem_map, List.mem_filter, decide_eq_true_eq, Prod.mk.injEq]
  constructor
  · rintro ⟨i, ⟨h1, h2⟩, rfl, rfl⟩
    exact ⟨h1, h2, rfl⟩
  · rintro ⟨h1, h2, rfl⟩
    exact ⟨a, ⟨h1, h2⟩, rfl, rfl⟩

end Go.Proofs.Ybulkbik
