import Derived.Test.YbulkbiyBuild
/-! build (5): the walk. -/
namespace Go.Proofs.Ybulkbiy
attribute [local go_sem ↓] Go.wp_at_zero Go.wp_at_succ
open Go.RowKit Go.Maps Go.Sort

/-- The argument's numbers. -/
def ArgU (w : World) (a : Option Addr) (n : Nat) (K : Nat → Int) : Prop := ∀ i, i < n → ∃ b off, a = some ⟨b, off, none⟩ ∧ w.cell? ⟨b, off + i, none⟩ = some (.int .u64 (K i))

set_option maxHeartbeats 4000000 in
set_option maxRecDepth 100000 in
theorem build5 (a : Option Addr) (n c : Nat) (K : Nat → Int) (wd : Nat) (hwd : 2 ≤ wd ∧ wd ≤ 99) (w : World) (hcell : ArgU w a n K) (hn : n ≤ 256) :
    Calls Yba.prog 5 #[.slice a n c, .int .i64 (wd : Nat)] w fun e w' => ∃ R, e = .returned (.pointer (some ⟨R, 0, none⟩)) ∧ TreeAt w wd (setI K n) R w' := by
  have HC : Hid (ArgU w a n K) := hcell
  clear hcell
  go_enter Yba.func5, Yba.ntmps5
  go_wp2_with fail
  go_loopw [5, 15] (fun vr vi wr => ∃ (i R : Nat), i ≤ n ∧ vi = .int .i64 (i : Nat) ∧ vr = .pointer (some ⟨R, 0, none⟩) ∧ TreeAt w wd (setI K i) R wr) (fun _ vi _ => n - (intOf vi).toNat)
  case atStart => exact ⟨0, _, Nat.zero_le _, rfl, rfl, tree_new w wd⟩
  case round =>
    obtain ⟨i, R, hi, rfl, rfl, T⟩ := hrel
    by_cases hin : i < n
    · obtain ⟨ba, oa, rfl, hca⟩ := HC.out i hin
      obtain ⟨d, D, C, P, N, hR, pre, hel, hd⟩ := T
      have hba := World.block_lt_of_cell? w _ hca
      have hcr := (hR.bel.cell (p := ⟨ba, oa + i, none⟩) hba).trans hca
      have hlen : (elems C d R).length ≤ 1000 := by rw [hel]; have := setI_len K i; omega
      have hdd : d = 0 ∨ elems C d R ≠ [] := by rw [hel]; exact hd
      have cc := ins11 w wd hwd (K i) d D C P N wr R [] [] hR pre hdd hlen
      have hsrt := pre.srt
      have HEL : Hid (elems C d R = setI K i) := hel
      have HPRE : Hid _ := pre
      have HRR : Hid _ := hR
      have hdz := hd
      have HD : Hid _ := hdz
      clear hel pre hR hlen hdd hd hca hba hdz
      obtain ⟨kk, hkk⟩ : ∃ kk, kk = K i := ⟨_, rfl⟩
      rw [← hkk] at hcr cc
      have HKK : Hid (kk = K i) := hkk
      clear hkk
      by_cases hk : kk ∈ elems C d R
      · go_wp2_with (go_at_call 11; refine cc.mono ?_; rintro e w2 hres; obtain ⟨_, rfl, T2⟩ := Or.resolve_right hres (fun h => h.1 hk))
        go_roundw
        case rel =>
          refine ⟨i + 1, R, by omega, by go_num, rfl, d, D, C, P, N, T2.rep, HPRE.out, ?_, ?_⟩
          · show _ = addK (setI K i) (K i)
            rw [← HKK.out, ← HEL.out]
            unfold addK
            rw [if_pos hk]
          · rcases HD.out with h | h
            · exact .inl h
            · refine .inr (fun e => ?_)
              have hk2 := (addK_mem (setI K i) (K i) kk).2 (.inl HKK.out)
              have e2 : addK (setI K i) (K i) = [] := e
              rw [e2] at hk2
              simp at hk2
        case measure => simp [intOf]; omega
      · go_upto_region 6 with (go_at_call 11; refine cc.mono ?_; rintro e w2 hres; obtain ⟨_, up, D', C', P', N', rfl, q1⟩ := Or.resolve_left hres (fun h => hk h.1))
        have hadd : setI K (i + 1) = insK kk (elems C d R) := by
          show addK (setI K i) (K i) = _
          rw [← HKK.out, ← HEL.out]
          unfold addK
          rw [if_neg hk]
        cases up with
        | none =>
          simp only [ptrV]
          go_wp2_with fail
          go_roundw
          case rel =>
            have hel2 : elems C' d R = insK kk (elems C d R) := by have := q1.el; simpa using this
            refine ⟨i + 1, R, by omega, by go_num, rfl, ?_⟩
            rw [hadd]
            refine ⟨d, D', C', P', N', q1.rep, ⟨q1.wf, fun x hx => (q1.idm x (by simp [hx])).1, by have := q1.idn; simpa using this, by rw [hel2]; exact insK_sorted hsrt hk, by have := q1.lk; simpa using this, by have := q1.lnd; simpa using this, by simp⟩, hel2, .inr (insK_ne _ _)⟩
          case measure => simp [intOf]; omega
        | some u =>
          simp only [ptrV]
          obtain ⟨C2, P2, N2, R2, hks2, hx2, hfin⟩ := tree_root hwd.1 hsrt hk q1
          have hq1 := hx2 R (by simp)
          have hq2 := hx2 u (by simp)
          have s1 := (q1.wf).size
          have s2 := (q1.wfu u rfl).1.size
          have hl1 := congrArg List.length q1.el
          rw [insK_len] at hl1
          simp only [Option.toList_some, List.flatMap_cons, List.flatMap_nil, List.append_nil, List.length_append] at hl1
          have hl2 := setI_len K i
          rw [← HEL.out] at hl2
          rw [show (w2.alloc (.cells #[.pointer (some ⟨R, 0, none⟩), .pointer (some ⟨u, 0, none⟩)] 24)).heap.size = w2.heap.size + 1 by simp] at R2
          have cR := resum12 w _ C2 P2 N2 _ (w2.heap.size + 1) R2 (by simp) (fun x hx => by
            rw [hks2] at hx
            obtain ⟨x1, x2, x3⟩ := hx2 x hx
            refine ⟨List.mem_cons_of_mem _ x1, x2, ?_⟩
            rw [x3]
            simp only [List.mem_cons, List.not_mem_nil, or_false] at hx
            rcases hx with rfl | rfl
            · rw [s1]; omega
            · rw [s2]; omega) R (by rw [hks2]; rfl) (by rw [hks2]; simp)
          have HFIN : Hid _ := hfin
          have HR2 : Hid _ := R2
          have HK2 : Hid _ := hks2
          have HADD : Hid _ := hadd
          clear hq1 hq2 s1 s2 hl1 hl2 hfin R2 hks2 hx2 hadd q1 cc
          go_wp2_with (go_at_call 12; refine cR.mono ?_; rintro e w3 ⟨rfl, RB⟩)
          go_roundw
          case rel =>
            refine ⟨i + 1, w2.heap.size + 1, by omega, by go_num, by simp, ?_⟩
            rw [HADD.out]
            have T3 := RowB.done HR2.out (by simp) RB
            exact HFIN.out _ _ w3 rfl (by rw [HK2.out]) T3.rep
          case measure => simp [intOf]; omega
    · have hie : i = n := by omega
      subst hie
      go_wp2_with fail
      go_ret
      exact ⟨R, rfl, T⟩

end Go.Proofs.Ybulkbiy
