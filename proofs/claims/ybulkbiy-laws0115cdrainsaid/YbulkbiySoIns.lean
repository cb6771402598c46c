import Derived.Test.YbulkbiySoKit
namespace Go.Proofs.Ybulkbiy
open Go.RowKit Go.Sort

set_option maxHeartbeats 4000000 in
set_option maxRecDepth 100000 in
/-- insertionSortOrdered. -/
theorem ins72 {w0 : World} {blk off n : Nat} (B : Bed w0 blk off n) (cap a b : Nat) (d : Array Int) (w : World) (hs : d.size = n) (S : SI w0 blk off d w) (hab : a ≤ b) (hb : b ≤ n) :
    Calls Yba.prog 25 #[.slice (some ⟨blk, off, none⟩) n cap, .int .i64 a, .int .i64 b] w fun e w' => e = .returned (.tuple #[]) ∧ SI w0 blk off (insertionSort ltInt d a b) w' := by
  have few := B.few
  have HB : Hid (Bed w0 blk off n) := B
  have HS : Hid (SI w0 blk off d w) := S
  clear B S
  go_enter Yba.func25, Yba.ntmps25
  go_wp2_with fail
  go_loopw [6] (fun vi wr => ∃ (i : Nat) (dk : Array Int), vi = .int .i64 i ∧ a < i ∧ i ≤ b + 1 ∧ dk.size = n ∧ Hid (SI w0 blk off dk wr) ∧ Hid (insOuter ltInt a b i dk = insertionSort ltInt d a b)) (fun vi _ => b + 1 - (intOf vi).toNat)
  case atStart => exact ⟨a + 1, d, by go_num, by omega, by omega, hs, HS, rfl⟩
  case round =>
    obtain ⟨i, dk, rfl, hai, hib, hsk, HK, HO⟩ := hrel
    clear HS
    go_wp2_with fail
    · have hlt : i < b := by assumption
      go_loopw [7] (fun vj wr2 => ∃ (j : Nat) (dj : Array Int), vj = .int .i64 j ∧ a ≤ j ∧ j ≤ i ∧ dj.size = n ∧ Hid (SI w0 blk off dj wr2) ∧ Hid (insInner ltInt a j dj = insInner ltInt a i dk)) (fun vj _ => (intOf vj).toNat)
      case atStart => exact ⟨i, dk, rfl, by omega, Nat.le_refl _, hsk, HK, rfl⟩
      case round =>
        clear HK
        obtain ⟨j, dj, rfl, haj, hji, hsj, HJ, HI⟩ := hrel
        obtain ⟨G, HG, hcw, hfw⟩ := HB.out.fam HJ.out hsj
        go_upto_region 4 with fail
        go_cut [30] (fun vc wx => ∃ (c : Bool) (q : Nat), vc = .bool c ∧ Hid (c = (decide (a < j) && ltInt (G j) (G (j - 1)))) ∧ wx = wr.drewN q)
        case first =>
          by_cases hja : a < j
          · go_quiet (first | (go_at_call 31; refine Calls.quiet_of_same (less78 _ _ _)))
            go_wp2
            go_meet
            exact ⟨_, nq, rfl, by simp [Hid, hja], rfl⟩
          · go_quiet (first | (go_at_call 31; refine Calls.quiet_of_same (less78 _ _ _)))
            go_wp2
            go_meet
            exact ⟨_, nq, rfl, by simp [Hid, hja], rfl⟩
        case rest =>
          obtain ⟨c, q, rfl, hc, rfl⟩ := hcut
          cases c with
          | true =>
            have hp : a < j ∧ ltInt (G j) (G (j - 1)) = true := by simpa using hc.out.symm
            have haj' := hp.1
            have HP : Hid (ltInt (G j) (G (j - 1)) = true) := hp.2
            clear hp hc
            go_wp2_with fail
            go_region
            all_goals go_wp2
            all_goals go_roundw
            case rel =>
              refine ⟨j - 1, swp dj j (j - 1), by go_num, by omega, by omega, by rw [size_swp]; exact hsj, ?_, by rw [← HI.out, insInner_go ltInt a j dj haj' (by rw [← HG.out, ← HG.out]; exact HP.out)]; rfl⟩
              exact SI.swap HB.out (SI.drawn HJ.out _) hsj HG.out j (j - 1) (by omega) (by omega)
            case measure => simp [intOf]; omega
          | false =>
            have hp : j ≤ a ∨ ltInt dj[j]! dj[j - 1]! = false := by
              rw [← HG.out, ← HG.out]
              by_cases hja : a < j
              · exact .inr (by simpa [hja] using hc.out.symm)
              · exact .inl (by omega)
            have HP : Hid _ := hp
            clear hp hc
            go_wp2_with fail
            go_roundw
            case rel => exact ⟨i + 1, dj, by go_num, by omega, by omega, hsj, SI.drawn HJ.out q, by rw [← HO.out, insOuter_go _ _ _ _ _ hlt, ← HI.out, insInner_stop _ _ _ _ HP.out]; rfl⟩
            case measure => simp [intOf]; omega
    · have hge : ¬ i < b := by assumption
      go_end0
      exact ⟨rfl, by rw [← HO.out, insOuter_stop _ _ _ _ _ hge]; exact HK.out⟩

end Go.Proofs.Ybulkbiy
