import Derived.KernelRfl
/-! The plain mathematics of 'shortKey' and of numbering by first appearance: nothing of the program. -/
namespace Go.Proofs.Ybulkbik

/-- The bytes, the first lowest, as a number. -/
def low : List UInt8 → Nat
  | [] => 0
  | b :: r => b.toNat + 256 * low r

theorem low_snoc (l : List UInt8) (b : UInt8) : low (l ++ [b]) = low l + b.toNat * 2 ^ (8 * l.length) := by
  induction l with
  | nil => simp [low]
  | cons a r ih =>
    simp only [List.cons_append, low, ih, List.length_cons]
    rw [show 8 * (r.length + 1) = 8 * r.length + 8 by omega, Nat.pow_add]
    rw [Nat.mul_add, Nat.add_assoc]
    congr 2
    rw [show (2 : Nat) ^ 8 = 256 by decide, ← Nat.mul_assoc, Nat.mul_comm 256 b.toNat, Nat.mul_assoc, Nat.mul_comm 256]

theorem low_lt (l : List UInt8) : low l < 2 ^ (8 * l.length) := by
  induction l with
  | nil => simp [low]
  | cons a r ih =>
    simp only [low, List.length_cons]
    rw [show 8 * (r.length + 1) = 8 * r.length + 8 by omega, Nat.pow_add, show (2 : Nat) ^ 8 = 256 by decide]
    have := a.toNat_lt
    omega

theorem low_inj : ∀ (l m : List UInt8), l.length = m.length → low l = low m → l = m
  | [], [], _, _ => rfl
  | [], _ :: _, h, _ => by simp at h
  | _ :: _, [], h, _ => by simp at h
  | a :: r, b :: s, h, e => by
    simp only [low] at e
    have h1 := a.toNat_lt
    have h2 := b.toNat_lt
    have e1 : a.toNat = b.toNat := by omega
    have e2 : low r = low s := by omega
    rw [UInt8.toNat_inj.1 e1, low_inj r s (by simpa using h) e2]

theorem or_step (n L b k : Nat) (hL : L < 2 ^ (8 * k)) (hb : b < 256) (hk : k ≤ 6) : (n * 72057594037927936 + L) ||| (b * 2 ^ (8 * k)) = n * 72057594037927936 + (L + b * 2 ^ (8 * k)) := by
  have e56 : (72057594037927936 : Nat) = 2 ^ (56 - 8 * k) * 2 ^ (8 * k) := by
    rw [← Nat.pow_add, show 56 - 8 * k + 8 * k = 56 by omega]
  have hb' : b < 2 ^ (56 - 8 * k) := by
    have : (2 : Nat) ^ 8 ≤ 2 ^ (56 - 8 * k) := Nat.pow_le_pow_right (by omega) (by omega)
    have e : (2 : Nat) ^ 8 = 256 := by decide
    omega
  have eA : n * 72057594037927936 = (n <<< (56 - 8 * k)) <<< (8 * k) := by
    rw [e56, Nat.shiftLeft_eq, Nat.shiftLeft_eq, Nat.mul_assoc]
  have eB : b * 2 ^ (8 * k) = b <<< (8 * k) := by rw [Nat.shiftLeft_eq]
  rw [eA, eB, Nat.shiftLeft_add_eq_or_of_lt hL, Nat.or_assoc, Nat.or_comm L, ← Nat.or_assoc, ← Nat.shiftLeft_or_distrib,
    ← Nat.shiftLeft_add_eq_or_of_lt hb', ← Nat.shiftLeft_add_eq_or_of_lt hL]
  simp only [Nat.shiftLeft_eq, Nat.add_mul]
  omega

/-- What 'shortKey' gives for a name of up to seven bytes. -/
def skey (l : List UInt8) : Nat := l.length * 72057594037927936 + low l

theorem skey_lt (l : List UInt8) (h : l.length ≤ 7) : skey l < 18446744073709551616 := by
  have h1 := low_lt l
  have h2 : (2 : Nat) ^ (8 * l.length) ≤ 2 ^ 56 := Nat.pow_le_pow_right (by omega) (by omega)
  have e : (2 : Nat) ^ 56 = 72057594037927936 := by decide
  unfold skey
  omega

theorem skey_inj (l m : List UInt8) (hl : l.length ≤ 7) (hm : m.length ≤ 7) (h : skey l = skey m) : l = m := by
  have h1 := low_lt l
  have h2 := low_lt m
  have b1 : (2 : Nat) ^ (8 * l.length) ≤ 2 ^ 56 := Nat.pow_le_pow_right (by omega) (by omega)
  have b2 : (2 : Nat) ^ (8 * m.length) ≤ 2 ^ 56 := Nat.pow_le_pow_right (by omega) (by omega)
  have e : (2 : Nat) ^ 56 = 72057594037927936 := by decide
  unfold skey at h
  refine low_inj l m (by omega) (by omega)

end Go.Proofs.Ybulkbik
