import Derived.Test.YbulkbikItemsW
/-! Law A: the raw lists of bytes; 'zzs0114atoobig' (9). -/
namespace Go.Proofs.Ybulkbik
attribute [local go_sem ↓] Go.wp_at_zero Go.wp_at_succ
open Go.RowKit Go.Maps

def sumTo (L : Nat → Nat) : Nat → Nat
  | 0 => 0
  | k + 1 => sumTo L k + L k

theorem sumTo_mono (L : Nat → Nat) {i j : Nat} (h : i ≤ j) : sumTo L i ≤ sumTo L j := by
  induction j with
  | zero => rw [show i = 0 by omega]; exact Nat.le_refl _
  | succ j ih =>
    by_cases e : i = j + 1
    · rw [e]; exact Nat.le_refl _
    · have := ih (by omega)
      simp only [sumTo]; omega

theorem sumTo_get (L : Nat → Nat) {i j : Nat} (h : i < j) : L i ≤ sumTo L j := by
  have := sumTo_mono L (show i + 1 ≤ j from h)
  simp only [sumTo] at this
  omega

/-- The raw lists as they lie: n slices at b, o; list r has L r bytes. -/
structure RawA (w : World) (b o n : Nat) (A : Nat → Option Addr) (L C : Nat → Nat) (Z : Nat → Nat → Nat) : Prop where
  lt : b < w.heap.size
  outer : ∀ r, r < n → w.cell? ⟨b, o + r, none⟩ = some (.slice (A r) (L r) (C r))
  inner : ∀ r, r < n → ∀ c, c < L r → ∃ b' o', A r = some ⟨b', o', none⟩ ∧ b' < w.heap.size ∧ w.cell? ⟨b', o' + c, none⟩ = some (.int .u8 (Z r c : Nat))
  byte : ∀ r, r < n → ∀ c, c < L r → Z r c < 256
  len : ∀ r, r < n → L r < 4611686018427387904

theorem RawA.of_below {w w' : World} {b o n : Nat} {A : Nat → Option Addr} {L C : Nat → Nat} {Z : Nat → Nat → Nat} (h : RawA w b o n A L C Z) (hb : Below w.heap.size w w') : RawA w' b o n A L C Z where
  lt := Nat.lt_of_lt_of_le h.lt hb.size
  outer := fun r hr => (hb.cell (p := ⟨b, o + r, none⟩) h.lt).trans (h.outer r hr)
  inner := fun r hr c hc => by
    obtain ⟨b', o', h1, h2, h3⟩ := h.inner r hr c hc
    exact ⟨b', o', h1, Nat.lt_of_lt_of_le h2 hb.size, (hb.cell (p := ⟨b', o' + c, none⟩) h2).trans h3⟩
  byte := h.byte
  len := h.len

/-- What the slice of lists is. -/
def RawArg (w : World) (a0 : Option Addr) (n : Nat) (A : Nat → Option Addr) (L C : Nat → Nat) (Z : Nat → Nat → Nat) : Prop :=
  n = 0 ∨ ∃ b o, a0 = some ⟨b, o, none⟩ ∧ RawA w b o n A L C Z

theorem RawArg.of_below {w w' : World} {a0 : Option Addr} {n : Nat} {A : Nat → Option Addr} {L C : Nat → Nat} {Z : Nat → Nat → Nat} (h : RawArg w a0 n A L C Z) (hb : Below w.heap.size w w') : RawArg w' a0 n A L C Z := by
  rcases h with h | ⟨b, o, h1, h2⟩
  · exact .inl h
  · exact .inr ⟨b, o, h1, h2.of_below hb⟩

theorem RawArg.at {w : World} {a0 : Option Addr} {n r : Nat} {A : Nat → Option Addr} {L C : Nat → Nat} {Z : Nat → Nat → Nat} (h : RawArg w a0 n A L C Z) (hr : r < n) : ∃ b o, a0 = some ⟨b, o, none⟩ ∧ RawA w b o n A L C Z :=
  h.elim (fun e => by omega) id

/-- Is the input too big for the law? -/
def bigA (n : Nat) (L : Nat → Nat) : Bool := decide (256 < n) || decide (1024 < sumTo L n)

set_option maxHeartbeats 1000000 in
theorem toobig9 (a0 : Option Addr) (n cap : Nat) (A : Nat → Option Addr) (L C : Nat → Nat) (Z : Nat → Nat → Nat) (w : World) (h : RawArg w a0 n A L C Z) :
    Calls Yba.prog 9 #[.slice a0 n cap] w fun e w' => e = .returned (.bool (bigA n L)) ∧ w' = w := by
  by_cases hn : 256 < n
  · have e : bigA n L = true := by simp [bigA, hn]
    rw [e]
    clear e
    go_enter Yba.func9, Yba.ntmps9
    go_wp2_with fail
    go_ret
    exact ⟨rfl, rfl⟩
  · go_enter Yba.func9, Yba.ntmps9
    go_wp2_with fail
    go_loopw [3, 11] (fun vt vi wr => ∃ k : Nat, k ≤ n ∧ vt = .int .i64 (sumTo L k : Nat) ∧ vi = .int .i64 (k : Nat) ∧ sumTo L k ≤ 1024 ∧ wr = w) (fun _ vi _ => n - (intOf vi).toNat)
    case atStart => exact ⟨0, Nat.zero_le _, rfl, rfl, Nat.zero_le _, rfl⟩
    case round =>
      obtain ⟨k, hk, rfl, rfl, hs, rfl⟩ := hrel
      by_cases hlt : k < n
      · obtain ⟨b, o, rfl, hr⟩ := h.at hlt
        have hc := hr.outer k hlt
        have hl := hr.len k hlt
        obtain ⟨S, hS⟩ : ∃ S, S = sumTo L k := ⟨_, rfl⟩
        have hS1 : sumTo L (k + 1) = S + L k := by rw [hS]; rfl
        have HS1 : Hid _ := hS1
        rw [← hS] at hs ⊢
        have HS : Hid (S = sumTo L k) := hS
        clear hS hS1 h hr
        by_cases hb : 1024 < S + L k
        · have e : bigA n L = true := by
            have := sumTo_mono L (show k + 1 ≤ n from hlt)
            rw [HS1.out] at this
            simp [bigA]; omega
          have HE : Hid _ := e
          clear e
          go_wp2_with fail
          go_ret
          exact ⟨by rw [HE.out]; rfl, rfl⟩
        · go_wp2_with fail
          go_roundw
          case rel => exact ⟨k + 1, by omega, by rw [HS1.out]; go_num, by go_num, by rw [HS1.out]; omega, trivial⟩
          case measure => simp [intOf]; omega
      · have hkn : k = n := by omega
        have e : bigA n L = false := by simp [bigA]; rw [hkn] at hs; omega
        have HE : Hid _ := e
        clear e
        go_wp2_with fail
        go_ret
        exact ⟨by rw [HE.out]; rfl, rfl⟩

end Go.Proofs.Ybulkbik
