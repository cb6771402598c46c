import Derived.Test.YbulkbiyChkP
import Derived.Lib.Builder
/-! check (8). -/
namespace Go.Proofs.Ybulkbiy
attribute [local go_sem ↓] Go.wp_at_zero Go.wp_at_succ
open Go.RowKit Go.Maps Go.Sort

/-- A tree of the numbers S stands at R; where it holds nothing the chain of its leaves is no matter. -/
def TreeW (w0 : World) (wd : Nat) (S : List Int) (R : Nat) (w : World) : Prop :=
  ∃ d D C P N, Rep w0 D C P N w ∧ WF C wd d R ∧ (∀ x ∈ ids C d R, x ∈ D) ∧ (ids C d R).Nodup ∧ (elems C d R).Pairwise (· < ·) ∧ Lk P N none (lvs C d R) ∧ (leaves C d R).Nodup ∧ elems C d R = S

theorem q31 (w : World) (a : Option Addr) (n c : Nat) : (binOp .neq 30 (.slice a n c) (.slice none 0 0)).run Yba.prog w = .ok (.bool (!a.isNone)) w := run_neq_slice_nil w 30 24 a n c Yba.underlying30

theorem und24 : Yba.prog.underlying 24 = some (.pointer 32) := by kernel_rfl
theorem inf32 : ∃ j, Yba.prog.info? 32 = some j := by
  have h : (Yba.prog.info? 32).isSome = true := by kernel_rfl
  exact Option.isSome_iff_exists.1 h
theorem qptr (w : World) (a : Addr) : (binOp .neq 24 (.pointer (some a)) (.pointer (some a))).run Yba.prog w = .ok (.bool false) w := by
  obtain ⟨j, hj⟩ := inf32
  exact Lib.run_neq_ptr_same w a und24 hj

theorem out_new (W1 : World) : OutAt W1 W1.heap.size (.slice none 0 0) [] (W1.alloc (.cells #[.slice none 0 0] 22)) :=
  ⟨World.rowIs_alloc W1 #[.slice none 0 0] 22 (fun _ => .slice none 0 0) (fun i hi => by
    have : i = 0 := by simp at hi; omega
    subst this; rfl), World.ownsRow_nil _ _ _ _, by simp [Value.ownBlock], (Below.refl _ _).alloc (Nat.le_refl _) _, Nat.le_refl _⟩

set_option maxHeartbeats 8000000 in
set_option maxRecDepth 100000 in
theorem check8 {w0 W1 : World} {wd R : Nat} {S : List Int} (T : TreeW w0 wd S R W1) (hwd : wd ≤ 99) (ea : Option Addr) (ec : Nat) (hE : LiesU W1 ea S) (bound : Nat) (hbd : S.length ≤ bound ∧ bound ≤ 500) :
    Calls Yba.prog 8 #[.pointer (some ⟨R, 0, none⟩), .slice ea S.length ec, .int .i64 (bound : Nat)] W1 fun e w' => e = .returned (.bool true) ∧ Below W1.heap.size W1 w' := by
  obtain ⟨d, D, C, P, N, h, wf, hid, hidn, srt, lk, lnd, hel⟩ := T
  have hRD : R ∈ D := hid R (ids_self _ _)
  have c18 := walk18 h hwd (o := W1.heap.size) d R wf hid srt (.slice none 0 0) [] _ (out_new W1) (by rw [hel]; simp; omega)
  rw [hel, List.nil_append] at c18
  have F : ∀ wr, Below W1.heap.size W1 wr → ∀ x ∈ D, wr.rowIs x 32 7 (ndCell (C x).nu (C x).va (C x).ch (C x).fi (C x).sz (P x) (N x)) := fun wr hbl x hx => ((h.below hbl).rep.at_ x hx).row
  have hszR : (C R).sz = (S.length : Int) := by rw [wf.size, hel]
  have HF : Hid _ := F
  have HE : Hid _ := hE
  have HSZ : Hid _ := hszR
  have HWF : Hid _ := wf
  have HID : Hid _ := hid
  have HLK : Hid _ := lk
  have HEL : Hid _ := hel
  have HR : Hid _ := h
  clear F hE hszR wf hid lk hel h hidn lnd srt
  obtain ⟨n, hn⟩ : ∃ n, n = S.length := ⟨_, rfl⟩
  rw [← hn] at HSZ hbd ⊢
  have HN : Hid (n = S.length) := hn
  clear hn
  have q := q30
  have q' := q31
  have qp := qptr
  go_enter Yba.func8, Yba.ntmps8
  go_upto_region 4 with (go_at_call 18; refine c18.mono ?_; rintro e w2 ⟨rfl, v2, O2⟩)
  clear c18
  obtain ⟨a2, c2, rfl⟩ := own_formY O2.own
  have x0 : w2.cell? ⟨W1.heap.size, 0, none⟩ = some (.slice a2 S.length c2) := O2.row.cell (i := 0) (by omega)
  have x1 := O2.row.lt
  have ceq := eq19 a2 ea c2 ec S w2 (by rw [← HN.out]; omega) (lies_own O2.own) (LiesU.below HE.out O2.bel)
  rw [← HN.out] at x0 ceq
  have hb2 := O2.bel
  clear O2
  go_upto_region 6 with (go_at_call 19; refine ceq.mono ?_; rintro e w3 ⟨rfl, qq, rfl⟩)
  have hb3 := below_drewNY hb2 qq
  clear ceq x0 x1 hb2
  generalize w2.drewN qq = w3 at hb3 ⊢
  have rR := HF.out w3 hb3 R hRD
  have y4 := rR.cell (i := 4) (by omega)
  rw [show ndCell (C R).nu (C R).va (C R).ch (C R).fi (C R).sz (P R) (N R) 4 = .int .i64 (C R).sz from rfl, HSZ.out] at y4
  have rl := rR.lt
  by_cases h0 : n = 0
  · subst h0
    go_wp2_with fail
    go_ret
    exact ⟨rfl, hb3⟩
  · have hn0 : 0 < n := by omega
    have hSne : elems C d R ≠ [] := fun e => by rw [HEL.out] at e; have := HN.out; rw [e] at this; simp at this; omega
    obtain ⟨eb, eo, rfl, hec⟩ := HE.out (by rw [← HN.out]; exact hn0)
    have hec0 := hec 0 (by rw [← HN.out]; exact hn0)
    rw [Nat.add_zero] at hec0
    have z0 := (hb3.cell (p := ⟨eb, eo, none⟩) (World.block_lt_of_cell? W1 _ hec0)).trans hec0
    have hfi : (C R).fi = S[0]! := HWF.out.first _ (by rw [HEL.out, List.head?_eq_getElem?, List.getElem?_eq_getElem (by rw [← HN.out]; exact hn0), getElem!_pos])
    have y3 := rR.cell (i := 3) (by omega)
    rw [show ndCell (C R).nu (C R).va (C R).ch (C R).fi (C R).sz (P R) (N R) 3 = .int .u64 (C R).fi from rfl, hfi] at y3
    generalize S[0]! = s0 at z0 y3
    have hne0 : ((n : Int) == 0) = false := beq_eq_false_iff_ne.2 (by omega)
    clear hec hec0 hfi rR
    go_upto_region 10 with fail
    go_quiet (fail)
    have hb4 := below_drewNY hb3 nq
    clear y3 y4 z0 rl hb3
    generalize w3.drewN nq = w4 at hb4 ⊢
    go_wp2_with fail
    go_loopg [8] d (fun gh vn wr => ∃ (d' x : Nat), d' ≤ gh ∧ vn = .pointer (some ⟨x, 0, none⟩) ∧ wr = w4 ∧ WF C wd d' x ∧ elems C d' x ≠ [] ∧ (leaves C d' x).head? = (leaves C d R).head? ∧ (∀ y ∈ ids C d' x, y ∈ D))
    case atStart => exact ⟨d, R, Nat.le_refl _, rfl, rfl, HWF.out, hSne, rfl, HID.out⟩
    case round =>
      obtain ⟨d', x, hgh, rfl, rfl, wx, nx, lx, ix⟩ := hrel
      rename World => w4
      have rx := HF.out w4 hb4 x (ix x (ids_self _ _))
      have xl := rx.lt
      cases d' with
      | succ d' =>
        obtain ⟨k0, hk0, wk, nk, lk0⟩ := first_kid wx nx
        obtain ⟨⟨g, c, hch⟩, _⟩ := wx
        have u2 : w4.cell? ⟨x, 2, none⟩ = some (.slice (some ⟨g, 0, none⟩) (C x).ks.length c) := by rw [rx.cell (i := 2) (by omega), ← hch]; rfl
        have hkl : 0 < (C x).ks.length := (List.getElem?_eq_some_iff.1 hk0).1
        have u3 := (HR.out.below hb4).rep.kidcell (ix x (ids_self _ _)) hch rfl hkl
        rw [show (C x).ks[0]! = k0 by rw [getElem!_pos _ 0 hkl]; exact (List.getElem?_eq_some_iff.1 hk0).2] at u3
        have hlx : (leaves C d' k0).head? = (leaves C d R).head? := lk0.symm.trans lx
        have hix : ∀ y ∈ ids C d' k0, y ∈ D := fun y hy => ix y (ids_kid (List.mem_of_getElem? hk0) hy)
        have HWK : Hid _ := wk
        have HNK : Hid _ := nk
        have HLX : Hid _ := hlx
        have HIX : Hid _ := hix
        generalize (C x).ks.length = nn at u2 hkl
        clear wk nk hlx hix hk0 lk0 lx ix nx hch rx
        go_wp2_with fail
        go_roundg d'
        case measure => omega
        case rel => exact ⟨d', k0, Nat.le_refl _, rfl, rfl, HWK.out, HNK.out, HLX.out, HIX.out⟩
      | zero =>
        have u2 : w4.cell? ⟨x, 2, none⟩ = some (.slice none 0 0) := by rw [rx.cell (i := 2) (by omega), ← wx.1]; rfl
        obtain ⟨Ls, hLs⟩ : ∃ Ls, Ls = leaves C d R := ⟨_, rfl⟩
        have lk := HLK.out
        unfold lvs at lk
        rw [if_neg hSne, ← hLs] at lk
        have hhd : Ls.head? = some x := by rw [hLs, ← lx]; rfl
        obtain ⟨L1, rfl⟩ : ∃ L1, Ls = x :: L1 := by
          cases Ls with
          | nil => cases hhd
          | cons y L1 => cases hhd; exact ⟨L1, rfl⟩
        have hPx : P x = none := lk.1
        have u5 : w4.cell? ⟨x, 5, none⟩ = some (.pointer none) := by
          rw [rx.cell (i := 5) (by omega)]
          show some (ptrV (P x)) = _
          rw [hPx]; rfl
        have hlf : ∀ y ∈ x :: L1, WF C wd 0 y ∧ (C y).xs ≠ [] ∧ y ∈ D := fun y hy => by
          obtain ⟨a1, a2, a3⟩ := leaf_facts d R HWF.out hSne y (by rw [← hLs]; exact hy)
          exact ⟨a1, a2, HID.out y a3⟩
        have hfl : (x :: L1).flatMap (fun y => (C y).xs) = S := by rw [hLs, leaves_elems, HEL.out]
        have hll : (x :: L1).length ≤ n := by
          have := leaves_len (x :: L1) (fun y hy => (hlf y hy).2.1)
          rw [hfl, ← HN.out] at this
          exact this
        have HL : Hid (Lk P N none (x :: L1)) := lk
        have HLF : Hid _ := hlf
        have HFL : Hid _ := hfl
        clear lk hlf hfl hhd hLs hPx wx nx lx ix rx
        go_wp2_with fail
        clear u2 u5 xl
        obtain ⟨i23, hi23, hz0, hz1, hz2⟩ := info_parts infoY23
        go_loopw [9, 10, 11] (fun v9 v10 v11 wr => ∃ (A B : List Nat) (a9 : Option Addr) (c9 : Nat), x :: L1 = A ++ B ∧ v11 = ptrV B.head? ∧ v10 = .int .i64 (A.length : Nat) ∧ v9 = .slice a9 (A.flatMap (fun y => (C y).xs)).length c9 ∧ wr.ownsRow W1.heap.size 23 1 (.slice a9 (A.flatMap (fun y => (C y).xs)).length c9) (A.flatMap (fun y => (C y).xs)).length ((A.flatMap (fun y => (C y).xs)).map (Value.int .u64)) ∧ Below W1.heap.size W1 wr) (fun _ v10 _ _ => n + 1 - (intOf v10).toNat)
        case atStart => exact ⟨[], x :: L1, none, 0, rfl, rfl, rfl, rfl, World.ownsRow_nil _ _ _ _, hb4⟩
        case round =>
          obtain ⟨A, B, a9, c9, hAB, rfl, rfl, rfl, how, hbw⟩ := hrel
          have hAl : A.length + B.length ≤ n := by
            have := hll
            rw [hAB, List.length_append] at this
            exact this
          cases B with
          | nil =>
            rw [List.append_nil] at hAB
            have hfA : A.flatMap (fun y => (C y).xs) = S := by rw [← hAB]; exact HFL.out
            rw [hfA] at how ⊢
            have ceq := eq19 a9 (some ⟨eb, eo, none⟩) c9 ec S wr (by rw [← HN.out]; omega) (lies_own how) (LiesU.below HE.out hbw)
            rw [← HN.out] at ceq ⊢
            show Code.wp _ _ _ _ _
            simp only [List.head?_nil, ptrV]
            go_wp2_with (go_at_call 19; refine ceq.mono ?_; rintro e w5 ⟨rfl, qq, rfl⟩)
            go_ret
            exact ⟨rfl, below_drewNY hbw qq⟩
          | cons y B =>
            obtain ⟨wy, ney, hyD⟩ := HLF.out y (by rw [hAB]; simp)
            have hlk := HL.out
            rw [hAB] at hlk
            obtain ⟨_, hNy⟩ := Lk_at hlk
            have ry := HF.out wr hbw y hyD
            have u0 := (HR.out.below hbw).rep.at_ y hyD
            obtain ⟨g, c, hnu⟩ := own_some u0.nums (List.length_pos_iff.2 ney)
            obtain ⟨m, hm⟩ : ∃ m, m = (C y).xs.length := ⟨_, rfl⟩
            have v0 : wr.cell? ⟨y, 0, none⟩ = some (.slice (some ⟨g, 0, none⟩) m c) := by rw [ry.cell (i := 0) (by omega), hm, ← hnu]; rfl
            have v4 : wr.cell? ⟨y, 4, none⟩ = some (.int .i64 (m : Nat)) := by rw [ry.cell (i := 4) (by omega), hm, ← wy.2.2.2.1]; rfl
            have hown := u0.nums
            rw [hnu, ← hm] at hown
            have hnews := own_news hown 0
            rw [List.drop_zero] at hnews
            have hm0 : 0 < m := by rw [hm]; exact List.length_pos_iff.2 ney
            have yl := ry.lt
            obtain ⟨F, hF⟩ : ∃ F, F = (A.flatMap (fun y => (C y).xs)).length := ⟨_, rfl⟩
            rw [← hF] at how ⊢
            have hfa : ((A ++ [y]).flatMap (fun y => (C y).xs)) = A.flatMap (fun y => (C y).xs) ++ (C y).xs := by simp
            obtain ⟨F2, hF2⟩ : ∃ F2, F2 = ((A ++ [y]).flatMap (fun y => (C y).xs)).length := ⟨_, rfl⟩
            have hF3 : F + m = F2 := by rw [hF2, hfa, List.length_append, hF, hm]
            have hFb : F2 ≤ n := by
              have h1 := HFL.out
              rw [hAB, show A ++ y :: B = (A ++ [y]) ++ B by simp, List.flatMap_append] at h1
              have h2 := congrArg List.length h1
              rw [List.length_append, ← hF2, ← HN.out] at h2
              omega
            have HF2 : Hid (F + m = F2) := hF3
            have HFA : Hid (F2 = ((A ++ [y]).flatMap (fun y => (C y).xs)).length) := hF2
            have HMAP : Hid ((A.flatMap (fun y => (C y).xs)).map (Value.int .u64) ++ (C y).xs.map (Value.int .u64) = ((A ++ [y]).flatMap (fun y => (C y).xs)).map (Value.int .u64)) := by
              show _ = _
              rw [hfa, List.map_append]
            have HXL : Hid (((C y).xs.map (Value.int .u64)).length = m * 1) := by show _ = _; simp [hm]
            have HNEWS : Hid _ := hnews
            have HOW : Hid _ := how
            have HAB : Hid _ := hAB
            have hFm : F ≤ 500 ∧ m ≤ 500 := by omega
            have hdz : decide ((m : Int) ≤ 0) = false := by simp; omega
            obtain ⟨st, hst⟩ : ∃ st, st = A.length := ⟨_, rfl⟩
            have hA2 : st + 1 ≤ n := by rw [hst]; simp only [List.length_cons] at hAl; omega
            have HST : Hid (st = A.length) := hst
            rw [← hst]
            have hw1 : IntKind.i64.wrap ((st : Int) + 1) = (st : Int) + 1 := by rw [IntKind.wrap_i64]; omega
            have hw2 : IntKind.i64.wrap ((bound : Int) + 2) = (bound : Int) + 2 := by rw [IntKind.wrap_i64]; omega
            have hgt : decide ((bound : Int) + 2 < (st : Int) + 1) = false := by simp; omega
            have HC6 : Hid (ndCell (C y).nu (C y).va (C y).ch (C y).fi (C y).sz (P y) (N y) 6 = ptrV (N y)) := rfl
            have v6 : wr.cell? ⟨y, 6, none⟩ = some (ptrV (N y)) := ry.cell (i := 6) (by omega)
            have HNY : Hid (N y = B.head?) := hNy
            simp only [List.head?_cons, ptrV]
            clear hF hF2 hF3 hfa hm hst hnews how hown hAB hAl hNy u0 ry wy hnu
            cases B with
            | nil =>
              have HNY2 : Hid (N y = none) := HNY.out
              have v6' : wr.cell? ⟨y, 6, none⟩ = some (.pointer none) := by rw [v6, HNY2.out]; rfl
              clear v6 hlk
              go_wp2_with (first | (at_builtin; (refine wpList_append_own_at _ rfl (.tmp 103) (.tmp 107) 22 rfl W1.heap.size 23 i23 (.int .u64 0) 1 8 Yba.underlying22 hi23 hz0 hz1 hz2 rfl (by decide) (.slice a9 F c9) F _ rfl HOW.out ⟨g, 0, none⟩ m c ((C y).xs.map (Value.int .u64)) rfl HXL.out HNEWS.out (u64_one _) (by unfold maxLen; omega) (by omega) hbw.size ?_; intro v' w6 ho hg hnil hat; rw [HF2.out] at ho; obtain ⟨a10, c10, rfl⟩ := own_formY ho; have hb6 := hbw.grown hg hbw.size (fun k hk => (World.ownsRow.lt HOW.out k hk).1); have t6 : w6.cell? ⟨y, 6, none⟩ = some (.pointer none) := (by rw [(HF.out w6 hb6 y hyD).cell (i := 6) (by omega), HC6.out, HNY2.out]; rfl); have tl := (HF.out w6 hb6 y hyD).lt; have HO6 : Hid _ := ho; have HB6 : Hid _ := hb6; clear ho hg hnil hat hb6)))
              go_roundw
              case rel =>
                refine ⟨A ++ [y], [], a10, c10, by rw [HAB.out]; simp, rfl, ?_, by rw [HFA.out], ?_, HB6.out⟩
                · rw [List.length_append, ← HST.out]; go_num
                · have ho := HO6.out
                  rw [HMAP.out] at ho
                  rw [← HFA.out]
                  exact ho
              case measure => simp [intOf]; omega
            | cons z B =>
              have HNY2 : Hid (N y = some z) := HNY.out
              have v6' : wr.cell? ⟨y, 6, none⟩ = some (.pointer (some ⟨z, 0, none⟩)) := by rw [v6, HNY2.out]; rfl
              have hzD := (HLF.out z (by rw [HAB.out]; simp)).2.2
              have rz := HF.out wr hbw z hzD
              have hPz : P z = some y := by
                have h1 := (Lk_at (A := A ++ [y]) (b := z) (B := B) (by simpa using hlk)).1
                rw [h1]; simp
              have v5 : wr.cell? ⟨z, 5, none⟩ = some (.pointer (some ⟨y, 0, none⟩)) := by
                rw [rz.cell (i := 5) (by omega)]
                show some (ptrV (P z)) = _
                rw [hPz]; rfl
              have zl := rz.lt
              clear v6 hlk rz hPz
              go_wp2_with (first | (at_builtin; (refine wpList_append_own_at _ rfl (.tmp 103) (.tmp 107) 22 rfl W1.heap.size 23 i23 (.int .u64 0) 1 8 Yba.underlying22 hi23 hz0 hz1 hz2 rfl (by decide) (.slice a9 F c9) F _ rfl HOW.out ⟨g, 0, none⟩ m c ((C y).xs.map (Value.int .u64)) rfl HXL.out HNEWS.out (u64_one _) (by unfold maxLen; omega) (by omega) hbw.size ?_; intro v' w6 ho hg hnil hat; rw [HF2.out] at ho; obtain ⟨a10, c10, rfl⟩ := own_formY ho; have hb6 := hbw.grown hg hbw.size (fun k hk => (World.ownsRow.lt HOW.out k hk).1); have t6 : w6.cell? ⟨y, 6, none⟩ = some (.pointer (some ⟨z, 0, none⟩)) := (by rw [(HF.out w6 hb6 y hyD).cell (i := 6) (by omega), HC6.out, HNY2.out]; rfl); have tl := (HF.out w6 hb6 y hyD).lt; have HO6 : Hid _ := ho; have HB6 : Hid _ := hb6; clear ho hg hnil hat hb6)))
              go_roundw
              case rel =>
                refine ⟨A ++ [y], z :: B, a10, c10, by rw [HAB.out]; simp, rfl, ?_, by rw [HFA.out], ?_, HB6.out⟩
                · rw [List.length_append, ← HST.out]; go_num
                · have ho := HO6.out
                  rw [HMAP.out] at ho
                  rw [← HFA.out]
                  exact ho
              case measure => simp [intOf]; omega

end Go.Proofs.Ybulkbiy
