import Derived.Test.YbulkbiySoKit
import Derived.Sort.WalkC4
namespace Go.Proofs.Ybulkbiy
open Go.RowKit Go.Sort

set_option maxHeartbeats 8000000 in
set_option maxRecDepth 100000 in
/-- partitionOrdered. -/
theorem prt80 {w0 : World} {blk off n : Nat} (B : Bed w0 blk off n) (cap a b pivot : Nat) (d : Array Int) (w : World) (hs : d.size = n) (S : SI w0 blk off d w) (hap : a ≤ pivot) (hpb : pivot < b) (hb : b ≤ n) :
    Calls Yba.prog 33 #[.slice (some ⟨blk, off, none⟩) n cap, .int .i64 a, .int .i64 b, .int .i64 pivot] w fun e w' =>
      e = .returned (.tuple #[.int .i64 ((partition ltInt d a b pivot).1 : Nat), .bool (partition ltInt d a b pivot).2.1]) ∧ SI w0 blk off (partition ltInt d a b pivot).2.2 w' := by
  have few := B.few
  obtain ⟨j0, rfl⟩ : ∃ j0, b = j0 + 1 := ⟨b - 1, by omega⟩
  obtain ⟨G0, HG0, hc0, hf0⟩ := B.fam S hs
  obtain ⟨v0, hy0⟩ := cell?_setCell_some (w := w) (p := ⟨blk, off + a, none⟩) (x := .int .u64 (G0 pivot)) (q := ⟨blk, off + pivot, none⟩) (hc0 pivot (by omega))
  have HB : Hid (Bed w0 blk off n) := B
  have HS : Hid (SI w0 blk off d w) := S
  clear B S
  go_enter Yba.func33, Yba.ntmps33
  go_wp2_with fail
  go_region
  all_goals go_wp2_with fail
  obtain ⟨dk, hdk⟩ : ∃ dk, dk = swp d a pivot := ⟨_, rfl⟩
  have HDK : Hid (dk = swp d a pivot) := hdk
  have hsk : dk.size = n := by rw [hdk, size_swp]; exact hs
  have HK : Hid _ := SI.swap HB.out (SI.drawn HS.out 1) hs HG0.out a pivot (by omega) (by omega)
  rw [← hdk] at HK
  clear hdk HS HG0 hc0 hf0 hy0
  go_loopw [10] (fun vi w1 => ∃ i' : Nat, vi = .int .i64 i' ∧ (a + 1) ≤ i' ∧ i' ≤ j0 + 1 ∧ Hid (SI w0 blk off dk w1) ∧ Hid (scanUp (fun x => ltInt x dk[a]!) dk j0 i' = scanUp (fun x => ltInt x dk[a]!) dk j0 (a + 1))) (fun vi _ => j0 + 1 - (intOf vi).toNat)
  case atStart => exact ⟨(a + 1), by go_num, Nat.le_refl _, by omega, HK, rfl⟩
  case round =>
    clear HK
    obtain ⟨i', rfl, hii, hij', H1, HU⟩ := hrel
    obtain ⟨G, HG, hcw, hfw⟩ := HB.out.fam H1.out hsk
    go_upto_region 3 with fail
    go_cut [43] (fun vc wx => ∃ (c : Bool) (q : Nat), vc = .bool c ∧ Hid (c = (decide (i' ≤ j0) && ltInt (G i') (G a))) ∧ wx = wr.drewN q)
    case first =>
      by_cases hle : i' ≤ j0
      · go_quiet (first | (go_at_call 31; refine Calls.quiet_of_same (less78 _ _ _)))
        go_wp2
        go_meet
        exact ⟨_, nq, rfl, by simp [Hid, hle], rfl⟩
      · go_quiet (first | (go_at_call 31; refine Calls.quiet_of_same (less78 _ _ _)))
        go_wp2
        go_meet
        exact ⟨_, nq, rfl, by simp [Hid, hle], rfl⟩
    case rest =>
      obtain ⟨c, q, rfl, hc, rfl⟩ := hcut
      cases c with
      | true =>
        have hp : i' ≤ j0 ∧ ltInt (G i') (G a) = true := by simpa using hc.out.symm
        have hle := hp.1
        have HP : Hid (ltInt dk[i']! dk[a]! = true) := by rw [← HG.out, ← HG.out]; exact hp.2
        clear hp hc
        go_wp2_with fail
        go_roundw
        case rel => exact ⟨i' + 1, by go_num, by omega, by omega, SI.drawn H1.out q, (scanUp_go (fun x => ltInt x dk[a]!) dk _ i' hle HP.out).symm.trans HU.out⟩
        case measure => simp [intOf]; omega
      | false =>
        have hi2 : Hid (i' = scanUp (fun x => ltInt x dk[a]!) dk j0 (a + 1)) := by
          refine (scanUp_end (fun x => ltInt x dk[a]!) dk _ i' ?_).symm.trans HU.out
          rw [← HG.out, ← HG.out]
          by_cases hle : i' ≤ j0
          · exact .inr (by simpa [hle] using hc.out.symm)
          · exact .inl hle
        have H2 : Hid (SI w0 blk off dk (wr.drewN q)) := SI.drawn H1.out q
        clear hc HU hcw hfw HG G H1
        go_wp2_with fail
        generalize wr.drewN q = w2 at H2 ⊢
        go_loopw [11] (fun vj w3 => ∃ j' : Nat, vj = .int .i64 j' ∧ j' ≤ j0 ∧ i' ≤ j' + 1 ∧ Hid (SI w0 blk off dk w3) ∧ Hid (scanDown (fun x => !ltInt x dk[a]!) dk i' j' = scanDown (fun x => !ltInt x dk[a]!) dk i' j0)) (fun vj _ => (intOf vj).toNat)
        case atStart => exact ⟨j0, rfl, Nat.le_refl _, hij', H2, rfl⟩
        case round =>
          clear H2
          obtain ⟨j', rfl, hjj, hij2, H3, HD⟩ := hrel
          obtain ⟨G, HG, hcw, hfw⟩ := HB.out.fam H3.out hsk
          go_upto_region 5 with fail
          go_cut [60] (fun vc wx => ∃ (c : Bool) (q : Nat), vc = .bool c ∧ Hid (c = (decide (i' ≤ j') && !ltInt (G j') (G a))) ∧ wx = wr.drewN q)
          case first =>
            by_cases hle : i' ≤ j'
            · go_quiet (first | (go_at_call 31; refine Calls.quiet_of_same (less78 _ _ _)))
              go_wp2
              go_meet
              exact ⟨_, nq, rfl, by simp [Hid, hle], rfl⟩
            · go_quiet (first | (go_at_call 31; refine Calls.quiet_of_same (less78 _ _ _)))
              go_wp2
              go_meet
              exact ⟨_, nq, rfl, by simp [Hid, hle], rfl⟩
          case rest =>
            obtain ⟨c, q, rfl, hc, rfl⟩ := hcut
            cases c with
            | true =>
              have hp : i' ≤ j' ∧ (!ltInt (G j') (G a)) = true := by simpa using hc.out.symm
              have hle := hp.1
              have HP : Hid ((!ltInt dk[j']! dk[a]!) = true) := by rw [← HG.out, ← HG.out]; exact hp.2
              clear hp hc
              go_wp2_with fail
              go_roundw
              case rel => exact ⟨j' - 1, by go_num, by omega, by omega, SI.drawn H3.out q, (scanDown_go (fun x => !ltInt x dk[a]!) dk i' j' hle (by omega) HP.out).symm.trans HD.out⟩
              case measure => simp [intOf]; omega
            | false =>
              have hj2 : Hid (j' = scanDown (fun x => !ltInt x dk[a]!) dk i' j0) := by
                refine (scanDown_end (fun x => !ltInt x dk[a]!) dk i' j' ?_).symm.trans HD.out
                rw [← HG.out, ← HG.out]
                by_cases hle : i' ≤ j'
                · exact .inr (by simpa [hle] using hc.out.symm)
                · exact .inl hle
              have H4 : Hid (SI w0 blk off dk (wr.drewN q)) := SI.drawn H3.out q
              clear hc HD hcw hfw HG G H3
              generalize wr.drewN q = w4 at H4 ⊢
              obtain ⟨G, HG, hcw, hfw⟩ := HB.out.fam H4.out hsk
              by_cases hgt : i' > j'
              · obtain ⟨v3, hy3⟩ := cell?_setCell_some (w := w4) (p := ⟨blk, off + j', none⟩) (x := .int .u64 (G a)) (q := ⟨blk, off + a, none⟩) (hcw a (by omega))
                go_wp2_with fail
                go_region
                all_goals go_wp2_with fail
                go_ret2
                have e := part_first_break ltInt d a (j0 + 1) pivot rfl (by omega) HDK.out hi2.out hj2.out hgt
                rw [e]
                exact ⟨rfl, SI.swap HB.out (SI.drawn H4.out _) hsk HG.out j' a (by omega) (by omega)⟩
              · have hlt3 := part_scans_lt ltInt a (a + 1) j0 dk (by omega) hi2.out hj2.out (by omega)
                have HF : Hid _ := part_first_go ltInt d a (j0 + 1) pivot rfl (by omega) HDK.out hi2.out hj2.out (by omega)
                go_wp2_with fail
                go_region
                all_goals go_wp2_with fail
                have H5 : Hid _ := SI.swap HB.out (SI.drawn H4.out 1) hsk HG.out i' j' (by omega) (by omega)
                have hs5 : (swp dk i' j').size = n := by rw [size_swp]; exact hsk
                go_loopw [10, 11] (fun vi vj wr => ∃ (i j : Nat) (dk : Array Int), vi = .int .i64 i ∧ vj = .int .i64 j ∧ a < i ∧ i ≤ j + 1 ∧ j ≤ j0 ∧ dk.size = n ∧ Hid (SI w0 blk off dk wr) ∧
                    Hid (partition ltInt d a (j0 + 1) pivot = ((partLoop ltInt a i j dk).1, false, swp (partLoop ltInt a i j dk).2 (partLoop ltInt a i j dk).1 a))) (fun vi vj _ => (intOf vj).toNat + 1 - (intOf vi).toNat)
                case atStart => exact ⟨i' + 1, j' - 1, swp dk i' j', by go_num, by go_num, by omega, by omega, by omega, hs5, H5, HF.out⟩
                case round =>
                  clear H5 HF hs5 H4 HG hcw hfw hlt3 hi2 hj2 HDK hsk hij2 hjj hii hij' hgt
                  obtain ⟨i, j, dk, rfl, rfl, hai, hij, hjb, hsk, HK, HE⟩ := hrel
                  go_wp2_with fail
                  go_loopw [10] (fun vi w1 => ∃ i' : Nat, vi = .int .i64 i' ∧ i ≤ i' ∧ i' ≤ j + 1 ∧ Hid (SI w0 blk off dk w1) ∧ Hid (scanUp (fun x => ltInt x dk[a]!) dk j i' = scanUp (fun x => ltInt x dk[a]!) dk j i)) (fun vi _ => j + 1 - (intOf vi).toNat)
                  case atStart => exact ⟨i, rfl, Nat.le_refl _, by omega, HK, rfl⟩
                  case round =>
                    clear HK
                    obtain ⟨i', rfl, hii, hij', H1, HU⟩ := hrel
                    obtain ⟨G, HG, hcw, hfw⟩ := HB.out.fam H1.out hsk
                    go_upto_region 13 with fail
                    go_cut [112] (fun vc wx => ∃ (c : Bool) (q : Nat), vc = .bool c ∧ Hid (c = (decide (i' ≤ j) && ltInt (G i') (G a))) ∧ wx = wr.drewN q)
                    case first =>
                      by_cases hle : i' ≤ j
                      · go_quiet (first | (go_at_call 31; refine Calls.quiet_of_same (less78 _ _ _)))
                        go_wp2
                        go_meet
                        exact ⟨_, nq, rfl, by simp [Hid, hle], rfl⟩
                      · go_quiet (first | (go_at_call 31; refine Calls.quiet_of_same (less78 _ _ _)))
                        go_wp2
                        go_meet
                        exact ⟨_, nq, rfl, by simp [Hid, hle], rfl⟩
                    case rest =>
                      obtain ⟨c, q, rfl, hc, rfl⟩ := hcut
                      cases c with
                      | true =>
                        have hp : i' ≤ j ∧ ltInt (G i') (G a) = true := by simpa using hc.out.symm
                        have hle := hp.1
                        have HP : Hid (ltInt dk[i']! dk[a]! = true) := by rw [← HG.out, ← HG.out]; exact hp.2
                        clear hp hc
                        go_wp2_with fail
                        go_roundw
                        case rel => exact ⟨i' + 1, by go_num, by omega, by omega, SI.drawn H1.out q, (scanUp_go (fun x => ltInt x dk[a]!) dk _ i' hle HP.out).symm.trans HU.out⟩
                        case measure => simp [intOf]; omega
                      | false =>
                        have hi2 : Hid (i' = scanUp (fun x => ltInt x dk[a]!) dk j i) := by
                          refine (scanUp_end (fun x => ltInt x dk[a]!) dk _ i' ?_).symm.trans HU.out
                          rw [← HG.out, ← HG.out]
                          by_cases hle : i' ≤ j
                          · exact .inr (by simpa [hle] using hc.out.symm)
                          · exact .inl hle
                        have H2 : Hid (SI w0 blk off dk (wr.drewN q)) := SI.drawn H1.out q
                        clear hc HU hcw hfw HG G H1
                        go_wp2_with fail
                        generalize wr.drewN q = w2 at H2 ⊢
                        go_loopw [11] (fun vj w3 => ∃ j' : Nat, vj = .int .i64 j' ∧ j' ≤ j ∧ i' ≤ j' + 1 ∧ Hid (SI w0 blk off dk w3) ∧ Hid (scanDown (fun x => !ltInt x dk[a]!) dk i' j' = scanDown (fun x => !ltInt x dk[a]!) dk i' j)) (fun vj _ => (intOf vj).toNat)
                        case atStart => exact ⟨j, rfl, Nat.le_refl _, hij', H2, rfl⟩
                        case round =>
                          clear H2
                          obtain ⟨j', rfl, hjj, hij2, H3, HD⟩ := hrel
                          obtain ⟨G, HG, hcw, hfw⟩ := HB.out.fam H3.out hsk
                          go_upto_region 15 with fail
                          go_cut [129] (fun vc wx => ∃ (c : Bool) (q : Nat), vc = .bool c ∧ Hid (c = (decide (i' ≤ j') && !ltInt (G j') (G a))) ∧ wx = wr.drewN q)
                          case first =>
                            by_cases hle : i' ≤ j'
                            · go_quiet (first | (go_at_call 31; refine Calls.quiet_of_same (less78 _ _ _)))
                              go_wp2
                              go_meet
                              exact ⟨_, nq, rfl, by simp [Hid, hle], rfl⟩
                            · go_quiet (first | (go_at_call 31; refine Calls.quiet_of_same (less78 _ _ _)))
                              go_wp2
                              go_meet
                              exact ⟨_, nq, rfl, by simp [Hid, hle], rfl⟩
                          case rest =>
                            obtain ⟨c, q, rfl, hc, rfl⟩ := hcut
                            cases c with
                            | true =>
                              have hp : i' ≤ j' ∧ (!ltInt (G j') (G a)) = true := by simpa using hc.out.symm
                              have hle := hp.1
                              have HP : Hid ((!ltInt dk[j']! dk[a]!) = true) := by rw [← HG.out, ← HG.out]; exact hp.2
                              clear hp hc
                              go_wp2_with fail
                              go_roundw
                              case rel => exact ⟨j' - 1, by go_num, by omega, by omega, SI.drawn H3.out q, (scanDown_go (fun x => !ltInt x dk[a]!) dk i' j' hle (by omega) HP.out).symm.trans HD.out⟩
                              case measure => simp [intOf]; omega
                            | false =>
                              have hj2 : Hid (j' = scanDown (fun x => !ltInt x dk[a]!) dk i' j) := by
                                refine (scanDown_end (fun x => !ltInt x dk[a]!) dk i' j' ?_).symm.trans HD.out
                                rw [← HG.out, ← HG.out]
                                by_cases hle : i' ≤ j'
                                · exact .inr (by simpa [hle] using hc.out.symm)
                                · exact .inl hle
                              have H4 : Hid (SI w0 blk off dk (wr.drewN q)) := SI.drawn H3.out q
                              clear hc HD hcw hfw HG G H3
                              generalize wr.drewN q = w4 at H4 ⊢
                              obtain ⟨G, HG, hcw, hfw⟩ := HB.out.fam H4.out hsk
                              by_cases hgt : i' > j'
                              · obtain ⟨v3, hy3⟩ := cell?_setCell_some (w := w4) (p := ⟨blk, off + j', none⟩) (x := .int .u64 (G a)) (q := ⟨blk, off + a, none⟩) (hcw a (by omega))
                                go_wp2_with fail
                                go_region
                                all_goals go_wp2_with fail
                                go_ret2
                                have e := part_break ltInt a i j dk hi2.out hj2.out hgt
                                rw [HE.out, e]
                                exact ⟨rfl, SI.swap HB.out (SI.drawn H4.out _) hsk HG.out j' a (by omega) (by omega)⟩
                              · have hlt3 := part_scans_lt ltInt a i j dk (by omega) hi2.out hj2.out (by omega)
                                go_wp2_with fail
                                go_region
                                all_goals go_wp2_with fail
                                all_goals go_roundw
                                case rel =>
                                  refine ⟨i' + 1, j' - 1, swp dk i' j', by go_num, by go_num, by omega, by omega, by omega, by rw [size_swp]; exact hsk, SI.swap HB.out (SI.drawn H4.out _) hsk HG.out i' j' (by omega) (by omega), ?_⟩
                                  rw [HE.out, part_go ltInt a i j dk hi2.out hj2.out (by omega)]
                                  rfl
                                case measure => simp [intOf]; omega

end Go.Proofs.Ybulkbiy
