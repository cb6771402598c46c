import Derived.Test.YbulkbikRows
import Derived.Test.YbulkbikPlainC
import Derived.WalkKit
import Derived.WalkSpells
import Derived.WalkLawsBesides
namespace Go.Proofs.Ybulkbik
open Go.RowKit

/-- The letters of the kind that 'zzs0114ckind' gives. -/
def kindS (k : Int) : ByteArray :=
  if k % 8 = 0 then ⟨#[114]⟩ else if k % 8 = 1 then ⟨#[119]⟩ else if k % 8 = 2 then ⟨#[99]⟩ else if k % 8 = 3 then ⟨#[97]⟩
  else if k % 8 = 4 then ⟨#[115, 108]⟩ else if k % 8 = 5 then ⟨#[120, 108]⟩ else if k % 8 = 6 then ⟨#[108]⟩ else ⟨#[117]⟩

set_option maxHeartbeats 400000 in
theorem ckind_any (k : Int) (w : World) (h0 : 0 ≤ k) (h1 : k ≤ 255) :
    Calls Yba.prog 29 #[.int .u8 k] w fun e w' => e = .returned (.string (kindS k)) ∧ w' = w := by
  go_enter Yba.func29, Yba.ntmps29
  go_wp2
  all_goals
    simp only [beq_iff_eq, beq_eq_false_iff_ne] at *
    go_ret
    simp [kindS, *]

/-- Does an operation of this kind name an item? -/
def actsB (s : ByteArray) : Bool := !(s.toList == [99]) && !(s.toList == [97])

set_option maxHeartbeats 400000 in
theorem acts_any (s : ByteArray) (w : World) :
    Calls Yba.prog 39 #[.string s] w fun e w' => e = .returned (.bool (actsB s)) ∧ w' = w := by
  go_enter Yba.func39, Yba.ntmps39
  go_wp2
  all_goals
    go_ret
    simp [actsB, *]

theorem take_snoc (s : ByteArray) (k : Nat) (h : k < s.size) : s.data.toList.take (k + 1) = s.data.toList.take k ++ [s[k]] := by
  rw [List.take_succ_eq_append_getElem (by simpa using h)]; rfl

theorem wrapU64 (n : Int) (h0 : 0 ≤ n) (h1 : n < 18446744073709551616) : IntKind.u64.wrap n = n := by
  have e : n % 18446744073709551616 = n := Int.emod_eq_of_lt h0 h1
  simp [IntKind.wrap, IntKind.bits, IntKind.signed, e]

/-- One round of 'shortKey', as the walk spells it. -/
theorem skey_step (s : ByteArray) (k : Nat) (hs : s.size ≤ 7) (h : k < s.size) :
    bits .or .u64 ((s.size : Int) * 72057594037927936 + (low (s.data.toList.take k) : Int)) (IntKind.u64.wrap (IntKind.u64.wrap ((s[k].toNat : Nat) : Int) * 2 ^ (8 * k))) =
      ((s.size * 72057594037927936 + low (s.data.toList.take (k + 1)) : Nat) : Int) := by
  have hl : (s.data.toList.take k).length = k := by simp; have : s.data.size = s.size := rfl; omega
  have h1 := low_lt (s.data.toList.take k)
  rw [hl] at h1
  have h2 : (2 : Nat) ^ (8 * k) ≤ 2 ^ 48 := Nat.pow_le_pow_right (by omega) (by omega)
  have e48 : (2 : Nat) ^ 48 = 281474976710656 := by decide
  have hb := s[k].toNat_lt
  have hbp : s[k].toNat * 2 ^ (8 * k) ≤ 255 * 281474976710656 := Nat.mul_le_mul (by omega) (by omega)
  have w1 : IntKind.u64.wrap ((s[k].toNat : Nat) : Int) = ((s[k].toNat : Nat) : Int) := by
    exact wrapU64 _ (by omega) (by omega)
  have w2 : IntKind.u64.wrap (((s[k].toNat : Nat) : Int) * 2 ^ (8 * k)) = ((s[k].toNat * 2 ^ (8 * k) : Nat) : Int) := by
    have e : ((s[k].toNat : Nat) : Int) * 2 ^ (8 * k) = ((s[k].toNat * 2 ^ (8 * k) : Nat) : Int) := by simp
    rw [e]
    exact wrapU64 _ (by omega) (by omega)
  have e0 : (s.size : Int) * 72057594037927936 + (low (s.data.toList.take k) : Int) = ((s.size * 72057594037927936 + low (s.data.toList.take k) : Nat) : Int) := by simp
  rw [e0]
  rw [w1, w2, u64_or_nat _ _ (by omega) (by omega), or_step _ _ _ _ h1 hb (by omega), take_snoc s k h, low_snoc, hl]

set_option maxHeartbeats 400000 in
theorem short_any (s : ByteArray) (w : World) (hs : s.size ≤ 7) :
    Calls Yba.prog 38 #[.string s] w fun e w' => e = .returned (.tuple #[.int .u64 (skey s.data.toList : Nat), .bool true]) ∧ w' = w := by
  go_enter Yba.func38, Yba.ntmps38
  go_wp2
  go_loop [4, 15] (fun n i => ∃ k : Nat, k ≤ s.size ∧ i = .int .i64 k ∧ n = .int .u64 ((s.size * 72057594037927936 + low (s.data.toList.take k) : Nat) : Int)) (fun _ i => s.size - (intOf i).toNat)
  case atStart => exact ⟨0, Nat.zero_le _, rfl, by simp [low]⟩
  case round =>
    obtain ⟨k, hk, rfl, rfl⟩ := hrel
    by_cases hlt : k < s.size
    · have hst : Hid _ := skey_step s k hs hlt
      go_wp2
      go_round
      case rel => exact ⟨k + 1, by omega, by go_num, by rw [hst.out]⟩
      case measure => simp [intOf]; omega
    · go_wp2
      go_ret2
      have : k = s.size := by omega
      subst this
      refine ⟨?_, rfl⟩
      have e1 : s.data.toList.take s.size = s.data.toList := List.take_of_length_le (by simp)
      have e2 : s.data.toList.length = s.size := by simp
      simp [skey, e1, e2]

set_option maxHeartbeats 400000 in
theorem long_any (s : ByteArray) (w : World) (hs : 7 < s.size) :
    Calls Yba.prog 38 #[.string s] w fun e w' => e = .returned (.tuple #[.int .u64 0, .bool false]) ∧ w' = w := by
  go_enter Yba.func38, Yba.ntmps38
  go_wp2
  go_ret2
  exact ⟨rfl, rfl⟩

end Go.Proofs.Ybulkbik
