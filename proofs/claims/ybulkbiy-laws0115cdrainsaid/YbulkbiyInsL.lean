import Derived.Test.YbulkbiyTree
/-! What the moves make of a list. -/
namespace Go.Proofs.Ybulkbiy
open Go.RowKit Go.Maps Go.Sort

theorem moved_set_aux (A : List Value) (z y : Value) (i : Nat) (hi : i ≤ A.length) : (moved (A ++ [z]) (i + 1) i (A.length + 1 - (i + 1))).set i y = A.take i ++ y :: A.drop i := by
  unfold moved
  have e1 : (A ++ [z]).drop (i + 1 + (A.length + 1 - (i + 1))) = [] := List.drop_of_length_le (by simp; omega)
  have e2 : ((A ++ [z]).drop i).take (A.length + 1 - (i + 1)) = A.drop i := by
    rw [List.drop_append_of_le_length hi, List.take_append_of_le_length (by simp), List.take_of_length_le (by simp)]
  have e3 : (A ++ [z]).take (i + 1) = A.take i ++ [(A ++ [z])[i]'(by simp; omega)] := by
    rw [List.take_add_one, List.take_append_of_le_length hi, List.getElem?_eq_getElem (by simp; omega)]
    rfl
  rw [e1, e2, e3, List.append_nil, List.append_assoc, List.set_append_right _ _ (by simp; omega)]
  congr 1
  have : i - (A.take i).length = 0 := by simp; omega
  rw [this]
  rfl

theorem moved_set (f : Int → Value) (xs : List Int) (z : Value) (k : Int) (i : Nat) (hi : i ≤ xs.length) : (moved (xs.map f ++ [z]) (i + 1) i (xs.length + 1 - (i + 1))).set i (f k) = (xs.take i ++ k :: xs.drop i).map f := by
  have := moved_set_aux (xs.map f) z (f k) i (by simpa using hi)
  rw [List.length_map] at this
  rw [this]
  simp [List.map_take, List.map_drop]

theorem own_some {w : World} {base e size : Nat} {v : Value} {n : Nat} {xs : List Value} (h : w.ownsRow base e size v n xs) (hn : 0 < n) : ∃ g c, v = .slice (some ⟨g, 0, none⟩) n c := by
  rcases h.2 with ⟨_, e⟩ | ⟨g, cap, cur, e, _⟩
  · omega
  · exact ⟨g, cap, e⟩

/-- Taking one out: copy(v[i:], v[i+1:]), cut to one less. -/
theorem moved_cut (xs : List Value) (i : Nat) (hi : i < xs.length) : (moved xs i (i + 1) (xs.length - (i + 1))).take (xs.length - 1) = xs.take i ++ xs.drop (i + 1) := by
  unfold moved
  have e2 : (xs.drop (i + 1)).take (xs.length - (i + 1)) = xs.drop (i + 1) := List.take_of_length_le (by simp)
  rw [e2, List.take_append_of_le_length (by simp; omega), List.take_of_length_le (by simp; omega)]

theorem erase_at {xs : List Int} {k : Int} (h : xs.Pairwise (· < ·)) (hk : k ∈ xs) : xs.erase k = xs.take (posOf xs k) ++ xs.drop (posOf xs k + 1) := by
  have hat := (mem_at h).1 hk
  have hlt := (List.getElem?_eq_some_iff.1 hat).1
  have hx := (List.getElem?_eq_some_iff.1 hat).2
  have hsp := posOf_split xs k h
  conv => lhs; rw [← List.take_append_drop (posOf xs k) xs]
  rw [List.erase_append_right _ (fun hm => by have := hsp.1 k hm; omega), List.drop_eq_getElem_cons hlt, hx, List.erase_cons_head]

end Go.Proofs.Ybulkbiy
