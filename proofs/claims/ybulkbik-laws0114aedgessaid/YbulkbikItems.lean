import Derived.Test.YbulkbikBuildC
namespace Go.Proofs.Ybulkbik
attribute [local go_sem ↓] Go.wp_at_zero Go.wp_at_succ
open Go.RowKit Go.Maps

/-- The items named by the first k operations, in the order in which they were first named. -/
def seenTo (K S : Nat → ByteArray) : Nat → List (List UInt8)
  | 0 => []
  | k + 1 => if actsB (K k) = true ∧ (S k).data.toList ∉ seenTo K S k then seenTo K S k ++ [(S k).data.toList] else seenTo K S k

/-- The number of operation k's item. -/
def numAt (K S : Nat → ByteArray) (k : Nat) : Int := if actsB (K k) = true then ((seenTo K S k).idxOf (S k).data.toList : Nat) else -1

theorem seenTo_le (K S : Nat → ByteArray) (k : Nat) : (seenTo K S k).length ≤ k := by
  induction k with
  | zero => simp [seenTo]
  | succ k ih =>
    unfold seenTo
    split
    · simp; omega
    · omega

/-- What the map of short names holds. -/
def fsOf (seen : List (List UInt8)) : Lit → Option Int
  | .int .u64 a => (seen.findIdx? (fun s => decide (s.length ≤ 7) && decide ((skey s : Int) = a))).map Int.ofNat
  | _ => none
/-- What the map of long names holds. -/
def flOf (seen : List (List UInt8)) : Lit → Option Int
  | .string l => (seen.findIdx? (fun s => decide (7 < s.length) && decide (s = l))).map Int.ofNat
  | _ => none

theorem findIdx?_eq_idx {l : List (List UInt8)} {s : List UInt8} {p : List UInt8 → Bool} (hp : ∀ x, p x = decide (x = s)) : l.findIdx? p = if s ∈ l then some (l.idxOf s) else none := by
  have e : p = fun x => decide (x = s) := funext hp
  subst e
  induction l with
  | nil => simp
  | cons a r ih =>
    rw [List.findIdx?_cons, List.idxOf_cons]
    by_cases h : a = s
    · simp [h]
    · have h' : ¬ s = a := fun e => h e.symm
      have hb : (a == s) = false := by simpa using h
      simp [h, h', ih, hb]

theorem fs_at (seen : List (List UInt8)) (s : List UInt8) (h : s.length ≤ 7) : fsOf seen (.int .u64 (skey s : Nat)) = if s ∈ seen then some ((seen.idxOf s : Nat) : Int) else none := by
  show (seen.findIdx? (fun x => decide (x.length ≤ 7) && decide ((skey x : Int) = (skey s : Nat)))).map Int.ofNat = _
  rw [findIdx?_eq_idx (s := s)]
  · split <;> simp
  · intro x
    by_cases e : x = s
    · subst e; simp [h]
    · have : ¬ (x.length ≤ 7 ∧ skey x = skey s) := fun ⟨h1, h2⟩ => e (skey_inj x s h1 h h2)
      simp [e]
      intro h1 h2
      exact this ⟨h1, by omega⟩

theorem fl_at (seen : List (List UInt8)) (s : List UInt8) (h : 7 < s.length) : flOf seen (.string s) = if s ∈ seen then some ((seen.idxOf s : Nat) : Int) else none := by
  show (seen.findIdx? (fun x => decide (7 < x.length) && decide (x = s))).map Int.ofNat = _
  rw [findIdx?_eq_idx (s := s)]
  · split <;> simp
  · intro x
    by_cases e : x = s
    · subst e; simp [h]
    · simp [e]

theorem fs_snoc_long (seen : List (List UInt8)) (s : List UInt8) (h : 7 < s.length) : fsOf (seen ++ [s]) = fsOf seen := by
  funext kl
  unfold fsOf
  split
  · rw [List.findIdx?_append]
    simp [show ¬ s.length ≤ 7 by omega]
  · rfl

theorem fl_snoc_short (seen : List (List UInt8)) (s : List UInt8) (h : s.length ≤ 7) : flOf (seen ++ [s]) = flOf seen := by
  funext kl
  unfold flOf
  split
  · rw [List.findIdx?_append]
    simp [show ¬ 7 < s.length by omega]
  · rfl

theorem fs_upd (seen : List (List UInt8)) (s : List UInt8) (h : s.length ≤ 7) (hn : s ∉ seen) : Upd (fsOf seen) (.int .u64 (skey s : Nat)) (seen.length : Nat) (fsOf (seen ++ [s])) := by
  refine ⟨?_, fun x hx => ?_⟩
  · rw [fs_at _ s h, if_pos (by simp), List.idxOf_append, if_neg hn]
    simp
  · unfold fsOf
    split
    · rename_i a
      rw [List.findIdx?_append]
      have : ¬ ((skey s : Nat) : Int) = a := fun e => hx (by rw [e])
      simp [this]
    · rfl

theorem fl_upd (seen : List (List UInt8)) (s : List UInt8) (h : 7 < s.length) (hn : s ∉ seen) : Upd (flOf seen) (.string s) (seen.length : Nat) (flOf (seen ++ [s])) := by
  refine ⟨?_, fun x hx => ?_⟩
  · rw [fl_at _ s h, if_pos (by simp), List.idxOf_append, if_neg hn]
    simp
  · unfold flOf
    split
    · rename_i l
      rw [List.findIdx?_append]
      have : ¬ s = l := fun e => hx (by rw [e])
      simp [this]
    · rfl

end Go.Proofs.Ybulkbik
