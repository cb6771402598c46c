import Derived.Test.YbulkbiySoPdq
namespace Go.Proofs.Ybulkbiy
open Go.RowKit Go.Sort Go.Shelf

theorem len51 (m : Nat) (hm : m < 4611686018427387904) (w : World) :
    Calls Yba.prog 21 #[.int .u64 (m : Int)] w fun e w' => e = .returned (.int .i64 (bitsLen m : Nat)) ∧ w' = w := by
  have h := Any.bits_Len (SlLaysF0.n15.bits Yba.bitsL) (m : Int) w (by omega) (by omega)
  rwa [Int.toNat_natCast, bitLen_eq _ (by omega)] at h

set_option maxHeartbeats 4000000 in
/-- slices.Sort at []uint64. -/
theorem sort54 {w0 : World} {blk off n : Nat} (B : Bed w0 blk off n) (cap : Nat) (d : Array Int) (w : World) (hs : d.size = n) (S : SI w0 blk off d w) :
    Calls Yba.prog 14 #[.slice (some ⟨blk, off, none⟩) n cap] w fun e w' => e = .returned (.tuple #[]) ∧ SI w0 blk off (d.toList.mergeSort fun x y => decide (x ≤ y)).toArray w' := by
  have few := B.few
  have hl : bitsLen n < 4611686018427387904 := by
    have : bitsLen n ≤ 62 := (bitsLen_le_iff n 62).2 (by omega)
    omega
  have c2 := pdq66 B cap (n + 1) 0 n (bitsLen n) d w (by omega) hs S (Nat.zero_le _) (Nat.le_refl _) hl (Or.inl rfl)
  have c1 := len51 n few w
  have e : pdq ltInt d 0 n (bitsLen n) true true = (d.toList.mergeSort fun x y => decide (x ≤ y)).toArray := by
    rw [← sortInt d.toList]
    subst hs
    rfl
  rw [e] at c2
  have wr : IntKind.u64.wrap (n : Int) = n := by simp [IntKind.wrap, IntKind.bits, IntKind.signed]; omega
  clear e B S hs
  obtain ⟨R, hR⟩ : ∃ R, R = (d.toList.mergeSort fun x y => decide (x ≤ y)).toArray := ⟨_, rfl⟩
  rw [← hR] at c2 ⊢
  clear hR
  generalize bitsLen n = bl at *
  go_enter Yba.func14, Yba.ntmps14
  go_wp2_with (first | (go_at_call 21; refine c1.mono ?_; rintro e w1 ⟨rfl, rfl⟩) | (go_at_call 20; refine c2.mono ?_; rintro e w2 ⟨rfl, S2⟩))
  go_end0
  exact ⟨rfl, S2⟩

end Go.Proofs.Ybulkbiy
