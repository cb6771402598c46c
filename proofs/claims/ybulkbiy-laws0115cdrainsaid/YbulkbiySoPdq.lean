import Derived.Test.YbulkbiySoIns
import Derived.Test.YbulkbiySoPeq
import Derived.Test.YbulkbiySoPrt
import Derived.Test.YbulkbiySoRev
import Derived.Test.YbulkbiySoHeap
import Derived.Test.YbulkbiySoPiv
import Derived.Test.YbulkbiySoBrk
import Derived.Test.YbulkbiySoPar
import Derived.Sort.Walk13
import Derived.Sort.AssemblyPlain
namespace Go.Proofs.Ybulkbiy
open Go.RowKit Go.Sort

section
variable {w0 : World} {blk off n : Nat}

theorem brk74b (B : Bed w0 blk off n) (cap a b : Nat) (d : Array Int) (w : World) (hs : d.size = n) (S : SI w0 blk off d w) (h12 : 12 < b - a) (hb : b ≤ n) :
    Calls Yba.prog 27 #[.slice (some ⟨blk, off, none⟩) n cap, .int .i64 a, .int .i64 b] w fun e w' => e = .returned (.tuple #[]) ∧ SI w0 blk off (breakPatterns d a b) w' := by
  obtain ⟨L, rfl⟩ : ∃ L, b = a + L := ⟨b - a, by omega⟩
  exact brk74 B cap a L d w hs S (by omega) hb

theorem piv75b (B : Bed w0 blk off n) (cap a b : Nat) (d : Array Int) (w : World) (hs : d.size = n) (S : SI w0 blk off d w) (h12 : 12 < b - a) (hb : b ≤ n) :
    Calls Yba.prog 28 #[.slice (some ⟨blk, off, none⟩) n cap, .int .i64 a, .int .i64 b] w fun e w' =>
      e = .returned (.tuple #[.int .i64 ((choosePivot ltInt d a b).1 : Nat), .int .i64 (hintCode (choosePivot ltInt d a b).2)]) ∧ SI w0 blk off d w' := by
  obtain ⟨L, rfl⟩ : ∃ L, b = a + L := ⟨b - a, by omega⟩
  exact piv75 B cap a L d w hs S (by omega) hb
end

set_option maxHeartbeats 8000000 in
set_option maxRecDepth 100000 in
/-- pdqsortOrdered. -/
theorem pdq66 {w0 : World} {blk off n : Nat} (B : Bed w0 blk off n) (cap : Nat) : ∀ (N a b limit : Nat) (d : Array Int) (w : World), b - a < N → d.size = n → SI w0 blk off d w → a ≤ b → b ≤ n → limit < 4611686018427387904 → Sort.Below ltInt a b d →
    Calls Yba.prog 20 #[.slice (some ⟨blk, off, none⟩) n cap, .int .i64 a, .int .i64 b, .int .i64 limit] w fun e w' => e = .returned (.tuple #[]) ∧ SI w0 blk off (pdq ltInt d a b limit true true) w' := by
  intro N
  induction N with
  | zero => intro a b limit d w h; omega
  | succ N IH =>
    intro a b limit d w hN hs S hab hb hlim hB
    have few := B.few
    have HB : Hid (Bed w0 blk off n) := B
    have HS : Hid (SI w0 blk off d w) := S
    have HBl : Hid (Sort.Below ltInt a b d) := hB
    clear B S hB
    go_enter Yba.func20, Yba.ntmps20
    go_wp2_with fail
    go_loopw [1, 2, 3, 8, 9] (fun va vb vl vwb vwp wr => ∃ (a' b' lim : Nat) (wb wp : Bool) (dk : Array Int), va = .int .i64 a' ∧ vb = .int .i64 b' ∧ vl = .int .i64 lim ∧ vwb = .bool wb ∧ vwp = .bool wp ∧
        a' ≤ b' ∧ b' ≤ n ∧ b' - a' < N + 1 ∧ lim < 4611686018427387904 ∧ dk.size = n ∧ Hid (Sort.Below ltInt a' b' dk) ∧ Hid (SI w0 blk off dk wr) ∧ Hid (pdq ltInt dk a' b' lim wb wp = pdq ltInt d a b limit true true))
      (fun va vb _ _ _ _ => (intOf vb).toNat - (intOf va).toNat)
    case atStart => exact ⟨a, b, limit, true, true, d, rfl, rfl, rfl, rfl, rfl, hab, hb, hN, hlim, hs, HBl, HS, rfl⟩
    case round =>
      obtain ⟨a', b', lim, wb, wp, dk, rfl, rfl, rfl, rfl, rfl, hab', hb', hN', hlim', hsk, HBk, HK, HE⟩ := hrel
      clear HS HBl
      by_cases h12 : b' - a' ≤ 12
      · have hz : (b' : Int) - (a' : Int) ≤ 12 := by omega
        have c1 := ins72 HB.out cap a' b' dk wr hsk HK.out hab' hb'
        go_wp2_with (go_at_call 25; refine c1.mono ?_; rintro e w1 ⟨rfl, S1⟩)
        refine bodyPost_ret (results_none rfl _ _ _) rfl ?_
        rw [← HE.out, pdq_small h12]
        exact ⟨rfl, S1⟩
      · have hz : ¬ (b' : Int) - (a' : Int) ≤ 12 := by omega
        by_cases hl0 : lim = 0
        · have hz0 : ((lim : Int) == 0) = true := by simp [hl0]
          have c1 := heap73 HB.out cap a' b' dk wr hsk HK.out hab' hb'
          go_wp2_with (go_at_call 26; refine c1.mono ?_; rintro e w1 ⟨rfl, S1⟩)
          refine bodyPost_ret (results_none rfl _ _ _) rfl ?_
          rw [← HE.out, pdq_heap h12 hl0]
          exact ⟨rfl, S1⟩
        · have hz0 : ((lim : Int) == 0) = false := by simp; omega
          obtain ⟨r, hr⟩ : ∃ r, r = rd ltInt dk a' b' lim wb wp := ⟨_, rfl⟩
          have F := rd_facts (limit := lim) (wb := wb) (wp := wp) swo_ltInt partialInsertionSort_holds reverseRange_holds (show a' < b' by omega) (by rw [hsk]; exact hb') HBk.out
          rw [← hr] at F
          have HF : Hid _ := F
          have HRD : Hid (r = rd ltInt dk a' b' lim wb wp) := hr
          clear F hr
          go_upto_if 35 with fail
          go_cut [3] (fun vl wx => vl = .int .i64 (r.lim : Nat) ∧ r.lim < 4611686018427387904 ∧ Hid (SI w0 blk off r.d1 wx))
          case first =>
            cases wb with
            | true =>
              go_wp2_with fail
              go_meet
              rw [HRD.out, rd_true.1, rd_true.2]
              exact ⟨rfl, hlim', HK⟩
            | false =>
              have c1 := brk74b HB.out cap a' b' dk wr hsk HK.out (by omega) hb'
              go_wp2_with (go_at_call 27; refine c1.mono ?_; rintro e w1 ⟨rfl, S1⟩)
              go_meet
              rw [HRD.out, rd_false.1, rd_false.2]
              exact ⟨by congr 1; omega, by omega, S1⟩
          case rest =>
            clear HK
            obtain ⟨rfl, hlim2, H1⟩ := hcut
            have hc : choosePivot ltInt r.d1 a' b' = r.c := by rw [HRD.out]; rfl
            have c2 := piv75b HB.out cap a' b' r.d1 _ (by rw [HF.out.1]; exact hsk) H1.out (by omega) hb'
            rw [hc] at c2
            clear hc H1
            go_upto_if 50 with (go_at_call 28; refine c2.mono ?_; rintro e w2 ⟨rfl, S2⟩)
            have H2 : Hid _ := S2
            clear S2 c2
            go_cut [11, 12] (fun vp vh wx => vp = .int .i64 (r.pivot : Nat) ∧ vh = .int .i64 (hintCode r.hint) ∧ Hid (SI w0 blk off r.d2 wx))
            case first =>
              have bc := HF.out.2.2.1
              by_cases hdec : r.c.2 = .decreasing
              · have hzh : (hintCode r.c.2 == 2) = true := by rw [hdec]; rfl
                have c3 := rev76 HB.out cap a' b' r.d1 _ (by rw [HF.out.1]; exact hsk) H2.out (by omega) hb'
                have hrd := hdec
                rw [HRD.out] at hrd
                have hD := rd_dec hrd
                rw [← HRD.out] at hD
                have HD : Hid _ := hD
                clear hD hrd
                go_wp2_with (go_at_call 29; refine c3.mono ?_; rintro e w3 ⟨rfl, S3⟩)
                go_meet
                rw [HD.out.1, HD.out.2.1, HD.out.2.2]
                exact ⟨by congr 1; omega, rfl, S3⟩
              · have hzh : (hintCode r.c.2 == 2) = false := by
                  cases hh : r.c.2 with
                  | unknown => rfl
                  | increasing => rfl
                  | decreasing => exact absurd hh hdec
                have hrd := hdec
                rw [HRD.out] at hrd
                have hD := rd_not hrd
                rw [← HRD.out] at hD
                have HD : Hid _ := hD
                clear hD hrd
                go_wp2_with fail
                go_meet
                rw [HD.out.1, HD.out.2.1, HD.out.2.2]
                exact ⟨rfl, rfl, H2⟩
            case rest =>
              clear H2
              obtain ⟨rfl, rfl, H3⟩ := hcut
              rename World => w3
              go_upto_region 15 with fail
              go_cut [68] (fun vc wx => vc = .bool (wb && wp && decide (r.hint = .increasing)) ∧ wx = w3)
              case first =>
                have hzi : (hintCode r.hint == 1) = decide (r.hint = .increasing) := by cases r.hint <;> rfl
                cases wb with
                | true =>
                  cases wp with
                  | true =>
                    go_wp2_with fail
                    go_meet
                    exact ⟨by rw [← hzi]; rfl, rfl⟩
                  | false =>
                    go_wp2_with fail
                    go_meet
                    exact ⟨rfl, rfl⟩
                | false =>
                  go_wp2_with fail
                  go_meet
                  exact ⟨rfl, rfl⟩
              case rest =>
                obtain ⟨rfl, rfl⟩ := hcut
                go_upto_if 68 with fail
                go_cut [11] (fun vp wx => vp = .int .i64 (r.pivot : Nat) ∧ Hid (r.pi.2 = false) ∧ Hid (SI w0 blk off r.pi.1 wx))
                case first =>
                  cases hcd : (wb && wp && decide (r.hint = .increasing)) with
                  | true =>
                    have hy := hcd
                    rw [HRD.out] at hy
                    have hP := rd_pi_yes hy
                    rw [← HRD.out] at hP
                    have c4 := par77 HB.out cap a' b' r.d2 _ (by rw [HF.out.2.2.2.1]; exact hsk) H3.out (by omega) hb'
                    rw [← hP] at c4
                    clear hP hy
                    cases hpi : r.pi.2 with
                    | true =>
                      rw [hpi] at c4
                      go_wp2_with (go_at_call 30; refine c4.mono ?_; rintro e w4 ⟨rfl, S4⟩)
                      refine bodyPost_ret (results_none rfl _ _ _) rfl ?_
                      rw [← HE.out, pdq_done h12 hl0 (by rw [← HRD.out]; exact hpi), ← HRD.out]
                      exact ⟨rfl, S4⟩
                    | false =>
                      rw [hpi] at c4
                      go_wp2_with (go_at_call 30; refine c4.mono ?_; rintro e w4 ⟨rfl, S4⟩)
                      go_meet
                      exact ⟨rfl, hpi, S4⟩
                  | false =>
                    have hy := hcd
                    rw [HRD.out] at hy
                    have hP := rd_pi_no hy
                    rw [← HRD.out] at hP
                    have HP : Hid _ := hP
                    clear hP hy
                    go_wp2_with fail
                    go_meet
                    rw [HP.out]
                    exact ⟨rfl, rfl, H3⟩
                case rest =>
                  clear H3
                  obtain ⟨rfl, HPI, H4⟩ := hcut
                  rename World => w4
                  have hp1 := HF.out.2.2.2.2.2.1.1
                  have hp2 := HF.out.2.2.2.2.2.1.2
                  have hs3 : r.pi.1.size = n := by rw [HF.out.2.2.2.2.2.2.1]; exact hsk
                  have HB3 : Hid _ := HF.out.2.2.2.2.2.2.2
                  obtain ⟨G, HG, hcw, hfw⟩ := HB.out.fam H4.out hs3
                  go_upto_region 17 with fail
                  go_cut [87] (fun vc wx => ∃ (c : Bool) (q : Nat), vc = .bool c ∧ Hid (c = (decide (a' > 0) && !ltInt (G (a' - 1)) (G r.pivot))) ∧ wx = w4.drewN q)
                  case first =>
                    rcases Nat.eq_zero_or_pos a' with ha0 | ha0
                    · have ha0z : decide ((a' : Int) > 0) = false := decide_eq_false (by omega)
                      go_big_quiet (first | (go_at_call 31; refine Calls.quiet_of_same (less78 _ _ _)))
                      go_wp2_with fail
                      go_meet
                      exact ⟨_, nq, rfl, by simp [Hid, ha0], rfl⟩
                    · have ha0z : (a' : Int) > 0 := by omega
                      go_big_quiet (first | (go_at_call 31; refine Calls.quiet_of_same (less78 _ _ _)))
                      go_wp2_with fail
                      go_meet
                      exact ⟨_, nq, rfl, by simp [Hid, ha0], rfl⟩
                  case rest =>
                    obtain ⟨c, q, rfl, hc, hw5⟩ := hcut
                    have hc87 := hc.out
                    rw [HG.out, HG.out] at hc87
                    have HC : Hid _ := hc87
                    have H5 : Hid (SI w0 blk off r.pi.1 wc) := by rw [hw5]; exact SI.drawn H4.out q
                    clear hw5 hc hc87 H4 HG hcw hfw
                    cases c with
                    | true =>
                      have h87 := HC.out.symm
                      have h87' := h87
                      simp only [Bool.and_eq_true, decide_eq_true_eq, Bool.not_eq_true'] at h87'
                      obtain ⟨mid, d4, hx⟩ : ∃ mid d4, partitionEqual ltInt r.pi.1 a' b' r.pivot = (mid, d4) := ⟨_, _, rfl⟩
                      obtain ⟨r1, r2, r3, r4, _⟩ := round_eq swo_ltInt (partitionEqual_holds _) h87'.1 hp1 hp2 (show b' ≤ r.pi.1.size by omega) HB3.out h87'.2 hx
                      have c6 := peq79 HB.out cap a' b' r.pivot r.pi.1 _ hs3 H5.out hp1 hp2 hb'
                      rw [hx] at c6
                      have HQ : Hid (pdq ltInt dk a' b' lim wb wp = pdq ltInt d4 mid b' r.lim wb wp) := by
                        show _ = _
                        have := pdq_eq (lt := ltInt) (d := dk) (wb := wb) (wp := wp) h12 hl0 (by rw [← HRD.out]; exact HPI.out) (by rw [← HRD.out]; exact h87) (by rw [← HRD.out, hx]; exact ⟨r1, r2⟩)
                        rw [← HRD.out, hx] at this
                        exact this
                      have HR4 : Hid _ := r4
                      clear hx h87 h87' r4 HC
                      go_wp2_with (go_at_call 32; refine c6.mono ?_; rintro e w7 ⟨rfl, S7⟩)
                      go_roundw
                      case rel => exact ⟨mid, b', r.lim, wb, wp, d4, rfl, rfl, rfl, rfl, rfl, r2, hb', by omega, hlim2, by rw [r3]; exact hs3, HR4, S7, HQ.out.symm.trans HE.out⟩
                      case measure => simp [intOf]; omega
                    | false =>
                      have h87 := HC.out.symm
                      obtain ⟨mid, ap, d4, hx⟩ : ∃ mid ap d4, partition ltInt r.pi.1 a' b' r.pivot = (mid, ap, d4) := ⟨_, _, _, rfl⟩
                      obtain ⟨r1, r2, r3, r4, r5, r6, r7⟩ := round_part swo_ltInt (partition_holds _) hp1 hp2 (show b' ≤ r.pi.1.size by omega) HB3.out hx
                      have c6 := prt80 HB.out cap a' b' r.pivot r.pi.1 _ hs3 H5.out hp1 hp2 hb'
                      rw [hx] at c6
                      have hs4 : d4.size = n := by rw [r3]; exact hs3
                      by_cases h4 : mid - a' < b' - mid
                      · have h4z : (mid : Int) - (a' : Int) < (b' : Int) - (mid : Int) := by omega
                        obtain ⟨pL, sL⟩ := pdq_sorts ltInt swo_ltInt d4 a' mid r.lim true true r1 (by omega) r4
                        have HQ : Hid (pdq ltInt dk a' b' lim wb wp = pdq ltInt (pdq ltInt d4 a' mid r.lim true true) (mid + 1) b' r.lim (decide (mid - a' ≥ (b' - a') / 8)) ap) := by
                          show _ = _
                          have := pdq_left (lt := ltInt) (d := dk) (wb := wb) (wp := wp) h12 hl0 (by rw [← HRD.out]; exact HPI.out) (by rw [← HRD.out]; exact h87) (by rw [← HRD.out, hx]; exact ⟨r1, r2⟩) (by rw [← HRD.out, hx]; exact h4)
                          rw [← HRD.out, hx] at this
                          exact this
                        have HR6 : Hid _ := (r6 _ pL sL).1
                        have HIH : ∀ w7, SI w0 blk off d4 w7 → Calls Yba.prog 20 #[.slice (some ⟨blk, off, none⟩) n cap, .int .i64 a', .int .i64 mid, .int .i64 (r.lim : Nat)] w7 fun e w' => e = .returned (.tuple #[]) ∧ SI w0 blk off (pdq ltInt d4 a' mid r.lim true true) w' :=
                          fun w7 S7 => IH a' mid r.lim d4 w7 (by omega) hs4 S7 r1 (by omega) hlim2 r4
                        have hsz := pL.1
                        clear hx h87 HC r4 r5 r6 r7 sL pL
                        go_wp2_with (first | (go_at_call 33; refine c6.mono ?_; rintro e w7 ⟨rfl, S7⟩) | (go_at_call 20; refine (HIH _ S7).mono ?_; rintro e w8 ⟨rfl, S8⟩))
                        go_roundw
                        case rel => exact ⟨mid + 1, b', r.lim, decide (mid - a' ≥ (b' - a') / 8), ap, pdq ltInt d4 a' mid r.lim true true, by go_num, rfl, rfl, congrArg Value.bool (eighth (by omega) (by omega)), rfl, by omega, hb', by omega, hlim2, by rw [hsz]; exact hs4, HR6, S8, HQ.out.symm.trans HE.out⟩
                        case measure => simp [intOf]; omega
                      · have h4z : ¬ ((mid : Int) - (a' : Int) < (b' : Int) - (mid : Int)) := by omega
                        obtain ⟨pL, sL⟩ := pdq_sorts ltInt swo_ltInt d4 (mid + 1) b' r.lim true true (by omega) (by omega) r5
                        have HQ : Hid (pdq ltInt dk a' b' lim wb wp = pdq ltInt (pdq ltInt d4 (mid + 1) b' r.lim true true) a' mid r.lim (decide (b' - mid ≥ (b' - a') / 8)) ap) := by
                          show _ = _
                          have := pdq_right (lt := ltInt) (d := dk) (wb := wb) (wp := wp) h12 hl0 (by rw [← HRD.out]; exact HPI.out) (by rw [← HRD.out]; exact h87) (by rw [← HRD.out, hx]; exact ⟨r1, r2⟩) (by rw [← HRD.out, hx]; exact h4)
                          rw [← HRD.out, hx] at this
                          exact this
                        have HR7 : Hid _ := (r7 _ pL sL).1
                        have HIH : ∀ w7, SI w0 blk off d4 w7 → Calls Yba.prog 20 #[.slice (some ⟨blk, off, none⟩) n cap, .int .i64 ((mid : Int) + 1), .int .i64 b', .int .i64 (r.lim : Nat)] w7 fun e w' => e = .returned (.tuple #[]) ∧ SI w0 blk off (pdq ltInt d4 (mid + 1) b' r.lim true true) w' :=
                          fun w7 S7 => IH (mid + 1) b' r.lim d4 w7 (by omega) hs4 S7 (by omega) hb' hlim2 r5
                        have hsz := pL.1
                        clear hx h87 HC r4 r5 r6 r7 sL pL
                        go_wp2_with (first | (go_at_call 33; refine c6.mono ?_; rintro e w7 ⟨rfl, S7⟩) | (go_at_call 20; refine (HIH _ S7).mono ?_; rintro e w8 ⟨rfl, S8⟩))
                        go_roundw
                        case rel => exact ⟨a', mid, r.lim, decide (b' - mid ≥ (b' - a') / 8), ap, pdq ltInt d4 (mid + 1) b' r.lim true true, rfl, rfl, rfl, congrArg Value.bool (eighth (by omega) (by omega)), rfl, r1, by omega, by omega, hlim2, by rw [hsz]; exact hs4, HR7, S8, HQ.out.symm.trans HE.out⟩
                        case measure => simp [intOf]; omega

end Go.Proofs.Ybulkbiy
