import Derived.Test.YbulkbiyLawP
/-! RemoveOne (3). -/
namespace Go.Proofs.Ybulkbiy
attribute [local go_sem ↓] Go.wp_at_zero Go.wp_at_succ
open Go.RowKit Go.Maps Go.Sort

theorem take_succ_at {M : List Int} {i : Nat} (h : i < M.length) : M.take (i + 1) = M.take i ++ [M[i]!] := by
  rw [List.take_add_one, List.getElem?_eq_getElem h, getElem!_pos M i h]; rfl

set_option maxHeartbeats 8000000 in
set_option maxRecDepth 100000 in
theorem removeOne3 (a : Option Addr) (n c : Nat) (K : Nat → Int) (k0 : Int) (pick : Bool) (wv : Int) (W : World) (hA : ArgV W a n K) (hk0 : 0 ≤ k0 ∧ k0 < 18446744073709551616) (hwv : 0 ≤ wv ∧ wv < 256) :
    Calls Yba.prog 3 #[.slice a n c, .int .u64 k0, .bool pick, .int .u8 wv] W fun e w' => e = .returned (.bool true) ∧ Below W.heap.size W w' := by
  by_cases hbig : 256 < n
  · have hd : decide ((256 : Int) < (n : Int)) = true := by simp; omega
    clear hA
    go_enter Yba.func3, Yba.ntmps3
    go_wp2_with fail
    go_ret
    exact ⟨rfl, Below.refl _ _⟩
  have hn : n ≤ 256 := by omega
  have hd : decide ((256 : Int) < (n : Int)) = false := by simp; omega
  obtain ⟨r, hr, hr4⟩ : ∃ r : Nat, Int.tmod wv 4 = (r : Int) ∧ r < 4 := ⟨(Int.tmod wv 4).toNat, by rw [Int.tmod_eq_emod_of_nonneg hwv.1]; omega, by rw [Int.tmod_eq_emod_of_nonneg hwv.1]; omega⟩
  have hw1 : IntKind.u8.wrap (r : Int) = (r : Int) := by rw [IntKind.wrap_u8]; omega
  have hw2 : IntKind.i64.wrap (r : Int) = (r : Int) := by rw [IntKind.wrap_i64]; omega
  obtain ⟨wd, hwd⟩ : ∃ wd, wd = 2 + r := ⟨_, rfl⟩
  have hw3 : IntKind.i64.wrap (2 + (r : Int)) = (wd : Int) := by rw [IntKind.wrap_i64]; omega
  have hwd2 : 2 ≤ wd ∧ wd ≤ 99 := by omega
  have HA : Hid (ArgV W a n K) := hA
  clear hA hwd hbig
  go_enter Yba.func3, Yba.ntmps3
  go_upto_region 4 with fail
  go_cut [29] (fun vc wx => vc = .bool (pick && decide (0 < n)) ∧ wx = W)
  case first =>
    cases pick with
    | false =>
      go_wp2_with fail
      all_goals go_meet
      all_goals exact ⟨rfl, rfl⟩
    | true =>
      go_wp2_with fail
      all_goals go_meet
      all_goals exact ⟨by simp, rfl⟩
  case rest =>
    obtain ⟨rfl, rfl⟩ := hcut
    rename World => W
    go_upto_if 29 with fail
    go_cut [1] (fun vc wx => (∃ kk, vc = .int .u64 kk) ∧ wx = W)
    case first =>
      have hpp : (pick && decide (0 < n)) = true → 0 < n := by simp
      generalize (pick && decide (0 < n)) = pb at hpp ⊢
      cases pb with
      | false =>
        go_wp2_with fail
        all_goals go_meet
        all_goals exact ⟨⟨_, rfl⟩, rfl⟩
      | true =>
        have hn0 := hpp rfl
        obtain ⟨b, off, rfl, hc⟩ : ∃ b off, a = some ⟨b, off, none⟩ ∧ ∀ i, i < n → W.cell? ⟨b, off + i, none⟩ = some (.int .u64 (K i)) := by
          rcases HA.out with h | h
          · omega
          · exact h
        have hu : IntKind.u64.wrap (n : Int) = (n : Int) := by rw [IntKind.wrap_u64]; omega
        have hm0 := Int.emod_nonneg k0 (by omega : (n : Int) ≠ 0)
        have hm1 := Int.emod_lt_of_pos k0 (by omega : (0 : Int) < (n : Int))
        obtain ⟨ix, hix, hixn⟩ : ∃ ix : Nat, Int.tmod k0 (n : Int) = (ix : Int) ∧ ix < n := ⟨(k0 % (n : Int)).toNat, by rw [Int.tmod_eq_emod_of_nonneg hk0.1]; omega, by omega⟩
        have hu2 : IntKind.u64.wrap (ix : Int) = (ix : Int) := by rw [IntKind.wrap_u64]; omega
        have hu3 : IntKind.i64.wrap (ix : Int) = (ix : Int) := by rw [IntKind.wrap_i64]; omega
        have hcx := hc ix hixn
        have hnn : ((n : Int) == 0) = false := beq_eq_false_iff_ne.2 (by omega)
        have hnz : ¬ n = 0 := by omega
        generalize K ix = kx at hcx
        clear hc hm0 hm1
        go_wp2_with fail
        all_goals go_meet
        all_goals exact ⟨⟨_, rfl⟩, rfl⟩
    case rest =>
      obtain ⟨⟨kk, rfl⟩, rfl⟩ := hcut
      rename World => W
      clear hr hw1 hw2 hw3 hd
      have c5 := build5 a n c K wd hwd2 W HA.out.toU hn
      go_upto_region 7 with (go_at_call 5; refine c5.mono ?_; rintro e w1 ⟨R, rfl, T1⟩)
      clear c5
      have hb1 : Below W.heap.size W w1 := by obtain ⟨_, _, _, _, _, hR, _⟩ := T1; exact hR.bel
      have c6 := set6g a n c K w1 (ArgV.below HA.out hb1) hn
      go_upto_region 8 with (go_at_call 6; refine c6.mono ?_; rintro e w2 ⟨ma, mc, rfl, M2, hb2⟩)
      clear c6
      have T2 := T1.below hb2
      have hbW2 : Below W.heap.size W w2 := hb1.trans (hb2.mono hb1.size)
      clear T1 hb1 hb2
      have hML := setI_len K n
      have hMS := setI_sorted K n
      obtain ⟨M, hM⟩ : ∃ M, M = setI K n := ⟨_, rfl⟩
      rw [← hM] at M2 T2 hML hMS ⊢
      obtain ⟨L, hL⟩ : ∃ L, L = M.length := ⟨_, rfl⟩
      rw [← hL] at hML ⊢
      have HL : Hid (L = M.length) := hL
      have HM2 : Hid (LiesU w2 ma M) := M2
      have HT2 : Hid _ := T2
      have HBW : Hid _ := hbW2
      have HMS : Hid _ := hMS
      clear hL hM M2 T2 hbW2 hMS
      obtain ⟨i23, hi23, hz0, hz1, hz2⟩ := info_parts infoY23
      have hLb : L ≤ 256 := by omega
      go_upto_region 10 with (at_make; (refine wpList_make_own _ rfl _ _ 22 rfl w2.heap.size 23 i23 (.int .u64 0) 1 Yba.underlying22 hi23 hz0 hz1 .i64 .i64 _ L rfl rfl rfl (by rw [hz2]; omega) (by unfold maxLen; omega) (Nat.le_refl _) ?_; intro w3 ho3 hg3))
      have hb3 := below_grown hg3
      clear hg3
      go_wp2_with fail
      go_loopw [12, 13, 49] (fun vw ve vi wr => ∃ (i : Nat) (ae : Option Addr) (ce : Nat), i ≤ L ∧ vi = .int .i64 (i : Nat) ∧ vw = .bool (decide (kk ∈ M.take i)) ∧ ve = .slice ae ((M.take i).filter (fun x => !(x == kk))).length ce ∧ wr.ownsRow w2.heap.size 23 1 (.slice ae ((M.take i).filter (fun x => !(x == kk))).length ce) ((M.take i).filter (fun x => !(x == kk))).length (((M.take i).filter (fun x => !(x == kk))).map (Value.int .u64)) ∧ Below w2.heap.size w2 wr) (fun _ _ vi _ => L - (intOf vi).toNat)
      case atStart => exact ⟨0, _, _, Nat.zero_le _, rfl, by simp, rfl, ho3, hb3⟩
      case round =>
        obtain ⟨i, ae, ce, hi, rfl, rfl, rfl, how, hbw⟩ := hrel
        by_cases hiL : i < L
        · have hi' : i < M.length := by rw [← HL.out]; exact hiL
          obtain ⟨mb, mo, rfl, hmc⟩ := HM2.out (by omega)
          have hmi := hmc i hi'
          have hc1 := (hbw.cell (p := ⟨mb, mo + i, none⟩) (World.block_lt_of_cell? w2 _ hmi)).trans hmi
          have htk := take_succ_at hi'
          obtain ⟨x, hx⟩ : ∃ x, x = M[i]! := ⟨_, rfl⟩
          rw [← hx] at hc1 htk
          have HTK : Hid (M.take (i + 1) = M.take i ++ [x]) := htk
          have hFl : ((M.take i).filter (fun x => !(x == kk))).length ≤ 256 := by
            have h1 := List.length_filter_le (fun x => !(x == kk)) (M.take i)
            rw [List.length_take] at h1
            omega
          have HOW : Hid _ := how
          clear hmc hmi htk hx how
          by_cases hxk : x = kk
          · subst hxk
            obtain ⟨F, hF⟩ : ∃ F, F = ((M.take i).filter (fun y => !(y == x))).length := ⟨_, rfl⟩
            rw [← hF]
            have HF : Hid _ := hF
            clear hF hFl
            generalize decide (x ∈ M.take i) = wb
            go_wp2_with fail
            go_roundw
            case rel =>
              have hfe : (M.take (i + 1)).filter (fun y => !(y == x)) = (M.take i).filter (fun y => !(y == x)) := by rw [HTK.out, List.filter_append]; simp
              refine ⟨i + 1, ae, ce, by omega, by go_num, by rw [HTK.out]; simp, by rw [hfe, ← HF.out], ?_, hbw⟩
              rw [hfe]; exact HOW.out
            case measure => simp [intOf]; omega
          · have hne : (x == kk) = false := beq_eq_false_iff_ne.2 hxk
            have hwt : decide (kk ∈ M.take (i + 1)) = decide (kk ∈ M.take i) := by
              rw [HTK.out]; simp only [List.mem_append, List.mem_singleton]
              congr 1
              simp only [eq_iff_iff]
              exact ⟨fun h => h.resolve_right (fun e => hxk e.symm), .inl⟩
            have hfe : (M.take (i + 1)).filter (fun y => !(y == kk)) = (M.take i).filter (fun y => !(y == kk)) ++ [x] := by rw [HTK.out, List.filter_append]; simp [hxk]
            obtain ⟨F, hF⟩ : ∃ F, F = ((M.take i).filter (fun y => !(y == kk))).length := ⟨_, rfl⟩
            obtain ⟨F2, hF2⟩ : ∃ F2, F2 = ((M.take (i + 1)).filter (fun y => !(y == kk))).length := ⟨_, rfl⟩
            have hFF : F + 1 = F2 := by rw [hF2, hfe, List.length_append, ← hF]; rfl
            have how := HOW.out
            rw [← hF] at how hFl ⊢
            have HFF : Hid (F + 1 = F2) := hFF
            have HF2 : Hid (F2 = ((M.take (i + 1)).filter (fun y => !(y == kk))).length) := hF2
            have HWT : Hid _ := hwt
            have HMP : Hid (((M.take i).filter (fun y => !(y == kk))).map (Value.int .u64) ++ [Value.int .u64 x] = ((M.take (i + 1)).filter (fun y => !(y == kk))).map (Value.int .u64)) := by show _ = _; rw [hfe]; simp
            generalize decide (kk ∈ M.take i) = wb at HWT ⊢
            clear hF hF2 hFF hfe hwt hxk HOW
            go_wp2_with (first | (at_builtin; (refine wpList_append_own_at _ rfl (.tmp 56) (.tmp 58) 22 rfl w2.heap.size 23 i23 (.int .u64 0) 1 8 Yba.underlying22 hi23 hz0 hz1 hz2 rfl (by decide) (.slice ae F ce) F _ rfl (World.ownsRow.alloc how _) ⟨wr.heap.size, 0, none⟩ 1 1 [.int .u64 x] rfl rfl (cell_one_new _ _ _) (by simp [Value.oneCell']) (by unfold maxLen; omega) (by omega) (by simp; have := hbw.size; omega) ?_; intro v' w6 ho hg hnil hat; rw [HFF.out] at ho; obtain ⟨a4, c4, rfl⟩ := own_formY ho; have hb6 := (hbw.alloc hbw.size (.cells #[.int .u64 x] 23)).grown hg (by simp; have := hbw.size; omega) (fun k hk => (World.ownsRow.lt how k hk).1); have HO6 : Hid _ := ho; have HB6 : Hid _ := hb6; clear ho hg hnil hat hb6)))
            go_roundw
            case rel =>
              refine ⟨i + 1, a4, c4, by omega, by go_num, by rw [HWT.out], by rw [HF2.out], ?_, HB6.out⟩
              have ho := HO6.out
              rw [HMP.out] at ho
              rw [← HF2.out]
              exact ho
            case measure => simp [intOf]; omega
        · obtain rfl : i = L := by omega
          have htA : M.take i = M := List.take_of_length_le (by rw [← HL.out]; exact Nat.le_refl _)
          rw [htA] at how ⊢
          have hfe := erase_filter HMS.out kk
          rw [← hfe] at how ⊢
          have c7 := rem_root hwd2 HT2.out hbw (by rw [← HL.out]; omega) kk
          have hel : (M.erase kk).length ≤ n := by have := List.length_erase_le (a := kk) (l := M); have := HL.out; omega
          have HOW : Hid _ := how
          clear how htA hfe
          generalize decide (kk ∈ M) = wb at c7 ⊢
          go_upto_region 18 with (go_at_call 7; refine c7.mono ?_; rintro e w5 ⟨rfl, TW, ha, hbW⟩)
          have how5 := own_same HOW.out (fun k hk => ha.keep k (World.ownsRow.lt HOW.out k hk).2 (World.ownsRow.lt HOW.out k hk).1)
          have c8 := check8 TW (by omega) ae ce (lies_own how5) n ⟨hel, by omega⟩
          clear how5 HOW c7
          cases wb with
          | true =>
            go_wp2_with (go_at_call 8; refine c8.mono ?_; rintro e w6 ⟨rfl, hb6⟩)
            go_ret
            exact ⟨rfl, hbW.trans (hb6.mono hbW.size)⟩
          | false =>
            go_wp2_with (go_at_call 8; refine c8.mono ?_; rintro e w6 ⟨rfl, hb6⟩)
            go_ret
            exact ⟨rfl, hbW.trans (hb6.mono hbW.size)⟩

end Go.Proofs.Ybulkbiy
