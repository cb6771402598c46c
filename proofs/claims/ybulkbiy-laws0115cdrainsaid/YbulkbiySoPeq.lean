import Derived.Test.YbulkbiySoKit
import Derived.Sort.WalkC
namespace Go.Proofs.Ybulkbiy
open Go.RowKit Go.Sort

set_option maxHeartbeats 4000000 in
set_option maxRecDepth 100000 in
/-- partitionEqualOrdered. -/
theorem peq79 {w0 : World} {blk off n : Nat} (B : Bed w0 blk off n) (cap a b pivot : Nat) (d : Array Int) (w : World) (hs : d.size = n) (S : SI w0 blk off d w) (hap : a ≤ pivot) (hpb : pivot < b) (hb : b ≤ n) :
    Calls Yba.prog 32 #[.slice (some ⟨blk, off, none⟩) n cap, .int .i64 a, .int .i64 b, .int .i64 pivot] w fun e w' =>
      e = .returned (.int .i64 ((partitionEqual ltInt d a b pivot).1 : Nat)) ∧ SI w0 blk off (partitionEqual ltInt d a b pivot).2 w' := by
  have few := B.few
  obtain ⟨G0, HG0, hc0, hf0⟩ := B.fam S hs
  obtain ⟨v0, hy0⟩ := cell?_setCell_some (w := w) (p := ⟨blk, off + a, none⟩) (x := .int .u64 (G0 pivot)) (q := ⟨blk, off + pivot, none⟩) (hc0 pivot (by omega))
  have HB : Hid (Bed w0 blk off n) := B
  have HS : Hid (SI w0 blk off d w) := S
  clear B S
  go_enter Yba.func32, Yba.ntmps32
  go_wp2_with fail
  go_region
  all_goals go_wp2_with fail
  go_loopw [9, 10] (fun vi vj wr => ∃ (i j : Nat) (dk : Array Int), vi = .int .i64 i ∧ vj = .int .i64 j ∧ a < i ∧ i ≤ j + 1 ∧ j < b ∧ dk.size = n ∧ Hid (SI w0 blk off dk wr) ∧ Hid (partEqLoop ltInt a i j dk = partitionEqual ltInt d a b pivot)) (fun vi vj _ => (intOf vj).toNat + 1 - (intOf vi).toNat)
  case atStart => exact ⟨a + 1, b - 1, swp d a pivot, by go_num, by go_num, by omega, by omega, by omega, by rw [size_swp]; exact hs, SI.swap HB.out (SI.drawn HS.out _) hs HG0.out a pivot (by omega) (by omega), rfl⟩
  case round =>
    obtain ⟨i, j, dk, rfl, rfl, hai, hij, hjb, hsk, HK, HE⟩ := hrel
    clear HS HG0 hc0 hf0 hy0
    go_wp2_with fail
    go_loopw [9] (fun vi w1 => ∃ i' : Nat, vi = .int .i64 i' ∧ i ≤ i' ∧ i' ≤ j + 1 ∧ Hid (SI w0 blk off dk w1) ∧ Hid (scanUp (fun x => !ltInt dk[a]! x) dk j i' = scanUp (fun x => !ltInt dk[a]! x) dk j i)) (fun vi _ => j + 1 - (intOf vi).toNat)
    case atStart => exact ⟨i, rfl, Nat.le_refl _, hij, HK, rfl⟩
    case round =>
      clear HK
      obtain ⟨i', rfl, hii, hij', H1, HU⟩ := hrel
      obtain ⟨G, HG, hcw, hfw⟩ := HB.out.fam H1.out hsk
      go_upto_region 3 with fail
      go_cut [43] (fun vc wx => ∃ (c : Bool) (q : Nat), vc = .bool c ∧ Hid (c = (decide (i' ≤ j) && !ltInt (G a) (G i'))) ∧ wx = wr.drewN q)
      case first =>
        by_cases hle : i' ≤ j
        · go_quiet (first | (go_at_call 31; refine Calls.quiet_of_same (less78 _ _ _)))
          go_wp2
          go_meet
          exact ⟨_, nq, rfl, by simp [Hid, hle], rfl⟩
        · go_quiet (first | (go_at_call 31; refine Calls.quiet_of_same (less78 _ _ _)))
          go_wp2
          go_meet
          exact ⟨_, nq, rfl, by simp [Hid, hle], rfl⟩
      case rest =>
        obtain ⟨c, q, rfl, hc, rfl⟩ := hcut
        cases c with
        | true =>
          have hp : i' ≤ j ∧ (!ltInt (G a) (G i')) = true := by simpa using hc.out.symm
          have hle := hp.1
          have HP : Hid ((!ltInt dk[a]! dk[i']!) = true) := by rw [← HG.out, ← HG.out]; exact hp.2
          clear hp hc
          go_wp2_with fail
          go_roundw
          case rel => exact ⟨i' + 1, by go_num, by omega, by omega, SI.drawn H1.out q, (scanUp_go (fun x => !ltInt dk[a]! x) dk j i' hle HP.out).symm.trans HU.out⟩
          case measure => simp [intOf]; omega
        | false =>
          have hi2 : Hid (i' = scanUp (fun x => !ltInt dk[a]! x) dk j i) := by
            refine (scanUp_end (fun x => !ltInt dk[a]! x) dk j i' ?_).symm.trans HU.out
            rw [← HG.out, ← HG.out]
            by_cases hle : i' ≤ j
            · exact .inr (by simpa [hle] using hc.out.symm)
            · exact .inl hle
          have H2 : Hid (SI w0 blk off dk (wr.drewN q)) := SI.drawn H1.out q
          clear hc HU hcw hfw HG G H1
          go_wp2_with fail
          generalize wr.drewN q = w2 at H2 ⊢
          go_loopw [10] (fun vj w3 => ∃ j' : Nat, vj = .int .i64 j' ∧ j' ≤ j ∧ i' ≤ j' + 1 ∧ Hid (SI w0 blk off dk w3) ∧ Hid (scanDown (fun x => ltInt dk[a]! x) dk i' j' = scanDown (fun x => ltInt dk[a]! x) dk i' j)) (fun vj _ => (intOf vj).toNat)
          case atStart => exact ⟨j, rfl, Nat.le_refl _, hij', H2, rfl⟩
          case round =>
            clear H2
            obtain ⟨j', rfl, hjj, hij2, H3, HD⟩ := hrel
            obtain ⟨G, HG, hcw, hfw⟩ := HB.out.fam H3.out hsk
            go_upto_region 5 with fail
            go_cut [59] (fun vc wx => ∃ (c : Bool) (q : Nat), vc = .bool c ∧ Hid (c = (decide (i' ≤ j') && ltInt (G a) (G j'))) ∧ wx = wr.drewN q)
            case first =>
              by_cases hle : i' ≤ j'
              · go_quiet (first | (go_at_call 31; refine Calls.quiet_of_same (less78 _ _ _)))
                go_wp2
                go_meet
                exact ⟨_, nq, rfl, by simp [Hid, hle], rfl⟩
              · go_quiet (first | (go_at_call 31; refine Calls.quiet_of_same (less78 _ _ _)))
                go_wp2
                go_meet
                exact ⟨_, nq, rfl, by simp [Hid, hle], rfl⟩
            case rest =>
              obtain ⟨c, q, rfl, hc, rfl⟩ := hcut
              cases c with
              | true =>
                have hp : i' ≤ j' ∧ ltInt (G a) (G j') = true := by simpa using hc.out.symm
                have hle := hp.1
                have HP : Hid (ltInt dk[a]! dk[j']! = true) := by rw [← HG.out, ← HG.out]; exact hp.2
                clear hp hc
                go_wp2_with fail
                go_roundw
                case rel => exact ⟨j' - 1, by go_num, by omega, by omega, SI.drawn H3.out q, (scanDown_go (fun x => ltInt dk[a]! x) dk i' j' hle (by omega) HP.out).symm.trans HD.out⟩
                case measure => simp [intOf]; omega
              | false =>
                have hj2 : Hid (j' = scanDown (fun x => ltInt dk[a]! x) dk i' j) := by
                  refine (scanDown_end (fun x => ltInt dk[a]! x) dk i' j' ?_).symm.trans HD.out
                  rw [← HG.out, ← HG.out]
                  by_cases hle : i' ≤ j'
                  · exact .inr (by simpa [hle] using hc.out.symm)
                  · exact .inl hle
                clear hc HD
                by_cases hgt : i' > j'
                · go_wp2_with fail
                  go_ret
                  have e := partEq_break ltInt a i j dk hi2.out hj2.out hgt
                  rw [← HE.out, e]
                  exact ⟨rfl, SI.drawn H3.out q⟩
                · have hlt3 := scans_lt ltInt a i j dk (by omega) hi2.out hj2.out (by omega)
                  go_wp2_with fail
                  go_region
                  all_goals go_wp2_with fail
                  all_goals go_roundw
                  case rel =>
                    refine ⟨i' + 1, j' - 1, swp dk i' j', by go_num, by go_num, by omega, by omega, by omega, by rw [size_swp]; exact hsk, SI.swap HB.out (SI.drawn H3.out _) hsk HG.out i' j' (by omega) (by omega), ?_⟩
                    rw [← HE.out]
                    exact (partEq_go ltInt a i j dk hi2.out hj2.out (by omega)).symm
                  case measure => simp [intOf]; omega

end Go.Proofs.Ybulkbiy
