import Derived.Test.YbulkbiySoKit
namespace Go.Proofs.Ybulkbiy
open Go.RowKit Go.Sort

theorem rev_go {α : Type} [Inhabited α] (i j : Nat) (d : Array α) (h : i < j) : reverseLoop i j d = reverseLoop (i + 1) (j - 1) (swp d i j) := by rw [reverseLoop, if_pos h]
theorem rev_stop {α : Type} [Inhabited α] (i j : Nat) (d : Array α) (h : ¬ i < j) : reverseLoop i j d = d := by rw [reverseLoop, if_neg h]

set_option maxHeartbeats 4000000 in
set_option maxRecDepth 100000 in
/-- reverseRangeOrdered. -/
theorem rev76 {w0 : World} {blk off n : Nat} (B : Bed w0 blk off n) (cap a b : Nat) (d : Array Int) (w : World) (hs : d.size = n) (S : SI w0 blk off d w) (hab : a < b) (hb : b ≤ n) :
    Calls Yba.prog 29 #[.slice (some ⟨blk, off, none⟩) n cap, .int .i64 a, .int .i64 b] w fun e w' => e = .returned (.tuple #[]) ∧ SI w0 blk off (reverseRange d a b) w' := by
  have few := B.few
  have HB : Hid (Bed w0 blk off n) := B
  have HS : Hid (SI w0 blk off d w) := S
  clear B S
  go_enter Yba.func29, Yba.ntmps29
  go_wp2_with fail
  go_loopw [6, 7] (fun vi vj wr => ∃ (i j : Nat) (dk : Array Int), vi = .int .i64 i ∧ vj = .int .i64 j ∧ j < b ∧ i ≤ b ∧ dk.size = n ∧ Hid (SI w0 blk off dk wr) ∧ Hid (reverseLoop i j dk = reverseRange d a b)) (fun vi vj _ => (intOf vj).toNat - (intOf vi).toNat)
  case atStart => exact ⟨a, b - 1, d, rfl, by go_num, by omega, by omega, hs, HS, rfl⟩
  case round =>
    obtain ⟨i, j, dk, rfl, rfl, hjb, hib, hsk, HK, HE⟩ := hrel
    clear HS
    obtain ⟨G, HG, hcw, hfw⟩ := HB.out.fam HK.out hsk
    by_cases hlt : i < j
    · go_wp2_with fail
      go_region
      all_goals go_wp2_with fail
      all_goals go_roundw
      case rel => exact ⟨i + 1, j - 1, swp dk i j, by go_num, by go_num, by omega, by omega, by rw [size_swp]; exact hsk, SI.swap HB.out (SI.drawn HK.out _) hsk HG.out i j (by omega) (by omega), by rw [← HE.out, rev_go i j dk hlt]; rfl⟩
      case measure => simp [intOf]; omega
    · go_wp2_with fail
      go_end0
      exact ⟨rfl, by rw [← HE.out, rev_stop i j dk hlt]; exact HK.out⟩

end Go.Proofs.Ybulkbiy
