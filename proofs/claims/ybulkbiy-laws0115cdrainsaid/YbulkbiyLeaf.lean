import Derived.Test.YbulkbiyResum
/-! Leaves: what place finds; insert of a number that is there. -/
namespace Go.Proofs.Ybulkbiy
attribute [local go_sem ↓] Go.wp_at_zero Go.wp_at_succ
open Go.RowKit Go.Maps Go.Sort

/-- Where k goes among the numbers. -/
def posOf (xs : List Int) (k : Int) : Nat := xs.countP (fun x => decide (x < k))

theorem posOf_le (xs : List Int) (k : Int) : posOf xs k ≤ xs.length := List.countP_le_length

theorem posOf_split : ∀ (xs : List Int) (k : Int), xs.Pairwise (· < ·) → (∀ x ∈ xs.take (posOf xs k), x < k) ∧ (∀ x ∈ xs.drop (posOf xs k), k ≤ x)
  | [], k, _ => by simp
  | y :: ys, k, h => by
    rw [List.pairwise_cons] at h
    have ih := posOf_split ys k h.2
    by_cases hy : y < k
    · have e : posOf (y :: ys) k = posOf ys k + 1 := by simp [posOf, hy]
      rw [e]
      refine ⟨fun x hx => ?_, fun x hx => ih.2 x (by simpa using hx)⟩
      simp only [List.take_succ_cons, List.mem_cons] at hx
      rcases hx with rfl | hx
      · exact hy
      · exact ih.1 x hx
    · have e : posOf (y :: ys) k = 0 := by
        unfold posOf
        rw [List.countP_eq_zero]
        intro x hx
        rcases List.mem_cons.1 hx with rfl | hx
        · simpa using hy
        · have := h.1 x hx
          simp; omega
      rw [e]
      refine ⟨by simp, fun x hx => ?_⟩
      simp only [List.drop_zero, List.mem_cons] at hx
      rcases hx with rfl | hx
      · omega
      · have := h.1 x hx; omega

theorem posOf_range (xs : List Int) (k : Int) : (List.range xs.length).countP (fun i => !decide (k ≤ xs[i]!)) = posOf xs k := by
  have := Lib.countP_range xs.toArray (fun y => !decide (k ≤ y))
  simp only [List.size_toArray] at this
  have e : (fun i : Nat => !decide (k ≤ xs.toArray[i]!)) = (fun i : Nat => !decide (k ≤ xs[i]!)) := by
    funext i
    simp
  rw [e] at this
  rw [this]
  unfold posOf
  congr 1
  funext x
  by_cases h : x < k
  · simp [h]
  · simp [h]; omega

/-- k is there just where place points at it. -/
theorem mem_at {xs : List Int} {k : Int} (h : xs.Pairwise (· < ·)) : k ∈ xs ↔ xs[posOf xs k]? = some k := by
  constructor
  · intro hk
    have hs := posOf_split xs k h
    rw [← List.take_append_drop (posOf xs k) xs, List.mem_append] at hk
    rcases hk with hk | hk
    · have := hs.1 k hk; omega
    · have hd : xs.drop (posOf xs k) = xs[posOf xs k]'(by
        have : 0 < (xs.drop (posOf xs k)).length := List.length_pos_of_mem hk
        simp at this; omega) :: xs.drop (posOf xs k + 1) := List.drop_eq_getElem_cons _
      have hlt : posOf xs k < xs.length := by
        have : 0 < (xs.drop (posOf xs k)).length := List.length_pos_of_mem hk
        simp at this; omega
      rw [hd, List.mem_cons] at hk
      rw [List.getElem?_eq_getElem hlt]
      rcases hk with hk | hk
      · rw [← hk]
      · have h1 := hs.2 xs[posOf xs k] (List.mem_of_getElem? (i := 0) (by rw [List.getElem?_drop, Nat.add_zero, List.getElem?_eq_getElem hlt]))
        have hp : (xs.drop (posOf xs k)).Pairwise (· < ·) := h.sublist (List.drop_sublist _ _)
        rw [hd, List.pairwise_cons] at hp
        have h2 := hp.1 k hk
        omega
  · exact List.mem_of_getElem?

/-- The numbers of a node, cell by cell. -/
theorem NodeAt.num {base : Nat} {W : World} {b : Nat} {r : Nd} {p n : Option Nat} (h : NodeAt base W b r p n) {i : Nat} (hi : i < r.xs.length) : ∃ g c, r.nu = .slice (some ⟨g, 0, none⟩) r.xs.length c ∧ W.cell? ⟨g, i, none⟩ = some (.int .u64 r.xs[i]!) := by
  rcases h.nums.2 with ⟨_, e0⟩ | ⟨g, cap, cur, e, _⟩
  · omega
  · refine ⟨g, cap, e, ?_⟩
    have := h.nums.cells (g := g) (by rw [e]; rfl) i (.int .u64 r.xs[i]!) (by rw [List.getElem?_map, List.getElem?_eq_getElem hi, getElem!_pos _ i hi]; rfl)
    rw [Addr.add_lit, Nat.zero_add] at this
    exact this

theorem asc_get {xs : List Int} (h : xs.Pairwise (· < ·)) {i j : Nat} (hij : i ≤ j) (hj : j < xs.length) : xs[i]! ≤ xs[j]! := by
  rw [getElem!_pos _ i (by omega), getElem!_pos _ j hj]
  by_cases e : i = j
  · subst e; exact Int.le_refl _
  · have := List.pairwise_iff_getElem.1 h i j (by omega) hj (by omega)
    omega

theorem own_formY {w : World} {base e size : Nat} {v : Value} {n : Nat} {xs : List Value} (h : w.ownsRow base e size v n xs) : ∃ a cp, v = .slice a n cp := by
  rcases h.2 with ⟨e, rfl⟩ | ⟨g, cap, cur, e, _⟩
  · exact ⟨_, _, e⟩
  · exact ⟨_, _, e⟩

/-- place, at a leaf. -/
theorem placeL {base : Nat} {W : World} {b : Nat} {r : Nd} {p n : Option Nat} (h : NodeAt base W b r p n) (hs : r.xs.Pairwise (· < ·)) (hl : r.xs.length ≤ 1000) (k : Int) :
    Calls Yba.prog 16 #[.pointer (some ⟨b, 0, none⟩), .int .u64 k] W fun e w' => e = .returned (.int .i64 (posOf r.xs k : Nat)) ∧ Below W.heap.size W w' := by
  obtain ⟨a, c, hnu⟩ := own_formY h.nums
  have := place16 b a r.xs.length c (fun i => r.xs[i]!) k W h.row.lt (by rw [h.row.cell (i := 0) (by omega), ← hnu]; rfl) hl (fun i hi => by
    obtain ⟨g, c', e, hc⟩ := h.num hi
    rw [hnu] at e
    injection e with e1 e2 e3
    exact ⟨g, e1, hc⟩) (fun i j hij hj => asc_get hs hij hj)
  rw [posOf_range] at this
  exact this

end Go.Proofs.Ybulkbiy
