import Derived.Test.YbulkbiySoKit
import Derived.Sort.WalkA6
namespace Go.Proofs.Ybulkbiy
open Go.RowKit Go.Sort

set_option maxHeartbeats 8000000 in
set_option maxRecDepth 100000 in
/-- partialInsertionSortOrdered. -/
theorem par77 {w0 : World} {blk off n : Nat} (B : Bed w0 blk off n) (cap a b : Nat) (d : Array Int) (w : World) (hs : d.size = n) (S : SI w0 blk off d w) (hab : a < b) (hb : b ≤ n) :
    Calls Yba.prog 30 #[.slice (some ⟨blk, off, none⟩) n cap, .int .i64 a, .int .i64 b] w fun e w' => e = .returned (.bool (partialInsertionSort ltInt d a b).2) ∧ SI w0 blk off (partialInsertionSort ltInt d a b).1 w' := by
  have few := B.few
  have HB : Hid (Bed w0 blk off n) := B
  have HS : Hid (SI w0 blk off d w) := S
  clear B S
  go_enter Yba.func30, Yba.ntmps30
  go_wp2_with fail
  go_loopw [7, 8] (fun vi vt wr => ∃ (i t : Nat) (dk : Array Int), vi = .int .i64 i ∧ vt = .int .i64 t ∧ a < i ∧ i ≤ b ∧ t ≤ 5 ∧ dk.size = n ∧ Hid (SI w0 blk off dk wr) ∧ Hid (partialIns ltInt a b (5 - t) i dk = partialInsertionSort ltInt d a b)) (fun _ vt _ => 5 - (intOf vt).toNat)
  case atStart => exact ⟨a + 1, 0, d, by go_num, rfl, by omega, by omega, by omega, hs, HS, rfl⟩
  case round =>
    obtain ⟨i, t, dk, rfl, rfl, hai, hib, ht, hsk, HK, HE⟩ := hrel
    clear HS
    by_cases ht5 : t < 5
    · have htz : (t : Int) < 5 := by omega
      go_wp2_with fail
      go_loopw [7] (fun vi w1 => ∃ i' : Nat, vi = .int .i64 i' ∧ i ≤ i' ∧ i' ≤ b ∧ Hid (SI w0 blk off dk w1) ∧ Hid (scanSorted ltInt dk b i' = scanSorted ltInt dk b i)) (fun vi _ => b - (intOf vi).toNat)
      case atStart => exact ⟨i, rfl, Nat.le_refl _, hib, HK, rfl⟩
      case round =>
        clear HK
        obtain ⟨i', rfl, hii, hib', H1, HU⟩ := hrel
        obtain ⟨G, HG, hcw, hfw⟩ := HB.out.fam H1.out hsk
        go_upto_region 5 with fail
        go_cut [32] (fun vc wx => ∃ (c : Bool) (q : Nat), vc = .bool c ∧ Hid (c = (decide (i' < b) && !ltInt (G i') (G (i' - 1)))) ∧ wx = wr.drewN q)
        case first =>
          by_cases hle : i' < b
          · go_quiet (first | (go_at_call 31; refine Calls.quiet_of_same (less78 _ _ _)))
            go_wp2
            go_meet
            exact ⟨_, nq, rfl, by simp [Hid, hle], rfl⟩
          · go_quiet (first | (go_at_call 31; refine Calls.quiet_of_same (less78 _ _ _)))
            go_wp2
            go_meet
            exact ⟨_, nq, rfl, by simp [Hid, hle], rfl⟩
        case rest =>
          obtain ⟨c, q, rfl, hc, rfl⟩ := hcut
          cases c with
          | true =>
            have hp : i' < b ∧ (!ltInt (G i') (G (i' - 1))) = true := by simpa using hc.out.symm
            have hle := hp.1
            have HP : Hid (ltInt dk[i']! dk[i' - 1]! = false) := by show _ = _; rw [← HG.out, ← HG.out]; simpa using hp.2
            clear hp hc
            go_wp2_with fail
            go_roundw
            case rel => exact ⟨i' + 1, by go_num, by omega, by omega, SI.drawn H1.out q, (scanSorted_go ltInt dk b i' hle HP.out).symm.trans HU.out⟩
            case measure => simp [intOf]; omega
          | false =>
            have hi2 : scanSorted ltInt dk b i = i' := by
              refine HU.out.symm.trans (scanSorted_stop ltInt dk b i' ?_)
              rw [← HG.out, ← HG.out]
              by_cases hle : i' < b
              · exact .inr (by simpa [hle] using hc.out.symm)
              · exact .inl hle
            have HI2 : Hid _ := hi2
            have H2 : Hid (SI w0 blk off dk (wr.drewN q)) := SI.drawn H1.out q
            clear hc HU hcw hfw HG G H1 hi2
            generalize wr.drewN q = w2 at H2 ⊢
            by_cases hib2 : i' = b
            · have hz : ((i' : Int) == (b : Int)) = true := by simp; omega
              go_wp2_with fail
              go_ret
              have e := pi_true ltInt a b t i dk ht5 (by rw [HI2.out, hib2])
              rw [HE.out] at e
              rw [e]
              exact ⟨rfl, H2.out⟩
            · have hz : ((i' : Int) == (b : Int)) = false := by simp; omega
              by_cases h50 : b - a < 50
              · have hz50 : (b : Int) - (a : Int) < 50 := by omega
                go_wp2_with fail
                go_ret
                have e := pi_short ltInt a b t i dk ht5 (by rw [HI2.out]; exact hib2) h50
                rw [HE.out] at e
                rw [e]
                exact ⟨rfl, H2.out⟩
              · have hz50 : ¬ (b : Int) - (a : Int) < 50 := by omega
                have e := pi_go ltInt a b t i i' dk ht5 HI2.out hib2 h50
                rw [HE.out] at e
                have HE2 : Hid _ := e
                clear e HE HI2
                obtain ⟨G, HG, hcw, hfw⟩ := HB.out.fam H2.out hsk
                go_wp2_with fail
                go_region
                all_goals go_upto_if 61 with fail
                have hs3 : (swp dk i' (i' - 1)).size = n := by rw [size_swp]; exact hsk
                have H3 : Hid _ := SI.swap HB.out (SI.drawn H2.out 1) hsk HG.out i' (i' - 1) (by omega) (by omega)
                obtain ⟨d3, hd3⟩ : ∃ d3, d3 = swp dk i' (i' - 1) := ⟨_, rfl⟩
                rw [← hd3] at hs3 H3 HE2
                clear hd3 H2 HG hcw hfw
                go_cut [7] (fun vi wx => vi = .int .i64 i' ∧ ∃ d4 : Array Int, d4.size = n ∧ Hid (SI w0 blk off d4 wx) ∧ Hid (d4 = fixDown ltInt a i' d3))
                case first =>
                  by_cases h2 : i' - a ≥ 2
                  · have hz2 : (2 : Int) ≤ (i' : Int) - (a : Int) := by omega
                    have hfd : fixDown ltInt a i' d3 = shiftDown ltInt (i' - 1) d3 := if_pos h2
                    have HFD : Hid _ := hfd
                    clear hfd
                    go_wp2_with fail
                    go_loopw [9] (fun vj w4 => ∃ (j : Nat) (dj : Array Int), vj = .int .i64 j ∧ j < i' ∧ dj.size = n ∧ Hid (SI w0 blk off dj w4) ∧ Hid (shiftDown ltInt j dj = shiftDown ltInt (i' - 1) d3)) (fun vj _ => (intOf vj).toNat)
                    case atStart => exact ⟨i' - 1, d3, by go_num, by omega, hs3, H3, rfl⟩
                    case round =>
                      clear H3
                      obtain ⟨j, dj, rfl, hji, hsj, HJ, HD⟩ := hrel
                      by_cases hj1 : 1 ≤ j
                      · obtain ⟨G, HG, hcw, hfw⟩ := HB.out.fam HJ.out hsj
                        go_wp2_with fail
                        go_big_quiet (first | (go_at_call 31; refine Calls.quiet_of_same (less78 _ _ _)))
                        cases hl : ltInt (G j) (G (j - 1)) with
                        | true =>
                          go_wp2_with fail
                          go_region
                          all_goals go_wp2_with fail
                          all_goals go_roundw
                          case rel => exact ⟨j - 1, swp dj j (j - 1), by go_num, by omega, by rw [size_swp]; exact hsj, SI.swap HB.out (SI.drawn HJ.out _) hsj HG.out j (j - 1) (by omega) (by omega), by rw [← HD.out, shiftDown_go ltInt j dj hj1 (by rw [← HG.out, ← HG.out]; exact hl)]; rfl⟩
                          case measure => simp [intOf]; omega
                        | false =>
                          go_wp2_with fail
                          go_meet
                          exact ⟨rfl, dj, hsj, SI.drawn HJ.out _, by rw [HFD.out, ← HD.out, shiftDown_stop ltInt j dj (.inr (by rw [← HG.out, ← HG.out]; exact hl))]; rfl⟩
                      · go_wp2_with fail
                        go_meet
                        exact ⟨rfl, dj, hsj, HJ, by rw [HFD.out, ← HD.out, shiftDown_stop ltInt j dj (.inl (by omega))]; rfl⟩
                  · have hz2 : ¬ (2 : Int) ≤ (i' : Int) - (a : Int) := by omega
                    go_wp2_with fail
                    go_meet
                    exact ⟨rfl, d3, hs3, H3, (if_neg h2).symm⟩
                case rest =>
                  clear H3
                  obtain ⟨rfl, d4, hs4, H4, HD4⟩ := hcut
                  rw [← HD4.out] at HE2
                  by_cases h2 : b - i' ≥ 2
                  · have hz2 : (2 : Int) ≤ (b : Int) - (i' : Int) := by omega
                    have hfu : fixUp ltInt b i' d4 = shiftUp ltInt b (i' + 1) d4 := if_pos h2
                    rw [hfu] at HE2
                    clear hfu
                    go_wp2_with fail
                    go_loopw [10] (fun vj w4 => ∃ (j : Nat) (dj : Array Int), vj = .int .i64 j ∧ i' < j ∧ j ≤ b ∧ dj.size = n ∧ Hid (SI w0 blk off dj w4) ∧ Hid (shiftUp ltInt b j dj = shiftUp ltInt b (i' + 1) d4)) (fun vj _ => b - (intOf vj).toNat)
                    case atStart => exact ⟨i' + 1, d4, by go_num, by omega, by omega, hs4, H4, rfl⟩
                    case round =>
                      clear H4
                      obtain ⟨j, dj, rfl, hji, hjb, hsj, HJ, HD⟩ := hrel
                      rw [← HD.out] at HE2
                      by_cases hj1 : j < b
                      · obtain ⟨G, HG, hcw, hfw⟩ := HB.out.fam HJ.out hsj
                        go_wp2_with fail
                        go_big_quiet (first | (go_at_call 31; refine Calls.quiet_of_same (less78 _ _ _)))
                        cases hl : ltInt (G j) (G (j - 1)) with
                        | true =>
                          go_wp2_with fail
                          go_region
                          all_goals go_wp2_with fail
                          all_goals go_roundw
                          case rel => exact ⟨j + 1, swp dj j (j - 1), by go_num, by omega, by omega, by rw [size_swp]; exact hsj, SI.swap HB.out (SI.drawn HJ.out _) hsj HG.out j (j - 1) (by omega) (by omega), by rw [← HD.out, shiftUp_go ltInt b j dj hj1 (by rw [← HG.out, ← HG.out]; exact hl)]; rfl⟩
                          case measure => simp [intOf]; omega
                        | false =>
                          rw [shiftUp_stop ltInt b j dj (.inr (by rw [← HG.out, ← HG.out]; exact hl))] at HE2
                          go_wp2_with fail
                          go_roundw
                          case rel => exact ⟨i', t + 1, dj, rfl, by go_num, by omega, by omega, by omega, hsj, SI.drawn HJ.out _, HE2.out.symm⟩
                          case measure => simp [intOf]; omega
                      · rw [shiftUp_stop ltInt b j dj (.inl hj1)] at HE2
                        go_wp2_with fail
                        go_roundw
                        case rel => exact ⟨i', t + 1, dj, rfl, by go_num, by omega, by omega, by omega, hsj, HJ, HE2.out.symm⟩
                        case measure => simp [intOf]; omega
                  · have hz2 : ¬ (2 : Int) ≤ (b : Int) - (i' : Int) := by omega
                    have hfu : fixUp ltInt b i' d4 = d4 := if_neg h2
                    rw [hfu] at HE2
                    clear hfu
                    go_wp2_with fail
                    go_roundw
                    case rel => exact ⟨i', t + 1, d4, rfl, by go_num, by omega, by omega, by omega, hs4, H4, HE2.out.symm⟩
                    case measure => simp [intOf]; omega
    · obtain rfl : t = 5 := by omega
      go_wp2_with fail
      go_ret
      rw [← HE.out]
      exact ⟨rfl, HK.out⟩

end Go.Proofs.Ybulkbiy
