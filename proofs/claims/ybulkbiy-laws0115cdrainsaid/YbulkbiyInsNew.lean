import Derived.Test.YbulkbiyRu
import Derived.Test.YbulkbiyInsL
/-! insert (11) at a leaf: a number that is new. -/
namespace Go.Proofs.Ybulkbiy
attribute [local go_sem ↓] Go.wp_at_zero Go.wp_at_succ
open Go.RowKit Go.Maps Go.Sort

set_option maxHeartbeats 4000000 in
set_option maxRecDepth 100000 in
theorem ins_new (w0 : World) (D : List Nat) (C : Nat → Nd) (P N : Nat → Option Nat) (W : World) (wd b : Nat) (A B : List Nat) (h : Rep w0 D C P N W) (pre : Pre D C P N wd 0 b A B) (hwd : 2 ≤ wd ∧ wd ≤ 99) (k : Int) (hk : k ∉ (C b).xs) :
    Calls Yba.prog 11 #[.pointer (some ⟨b, 0, none⟩), .int .u64 k, .int .u64 (vx k), .int .i64 (wd : Nat)] W fun e w' => ∃ up D' C' P' N', e = .returned (.tuple #[.bool true, ptrV up]) ∧ InsPost w0 D C W wd 0 b k A B up D' C' P' N' w' := by
  have hbD : b ∈ D := pre.idD b (by simp [ids])
  have hat := h.at_ b hbD
  have hs : (C b).xs.Pairwise (· < ·) := pre.srt
  have hch : (C b).ch = .slice none 0 0 := pre.wf.1
  have hl : (C b).xs.length ≤ 99 := by have := pre.wf.2.2.1; omega
  have c16 := placeL hat hs (by omega) k
  have LW0 := h.leaf hbD hch
  obtain ⟨a, c, hnu⟩ := own_formY hat.nums
  obtain ⟨a2, cv, hva⟩ := own_formY hat.vals
  have c2 : W.cell? ⟨b, 2, none⟩ = some (.slice none 0 0) := by rw [hat.row.cell (i := 2) (by omega), ← hch]; rfl
  have hne : ∀ hh : posOf (C b).xs k < (C b).xs.length, (C b).xs[posOf (C b).xs k]! ≠ k := fun hh e => hk ((mem_at hs).2 (by rw [List.getElem?_eq_getElem hh, ← getElem!_pos (C b).xs _ hh, e]))
  have hnum := fun hh : posOf (C b).xs k < (C b).xs.length => hat.num hh
  have hile := posOf_le (C b).xs k
  have bl := hat.row.lt
  rw [hnu, hva] at LW0
  rw [hnu] at hnum
  have hln : ((C b).xs.map (Value.int .u64)).length = (C b).xs.length := by simp
  have hlv : ((C b).xs.map (fun x => Value.int .u64 (vx x))).length = (C b).xs.length := by simp
  have q := q30
  obtain ⟨i, hi⟩ : ∃ i, i = posOf (C b).xs k := ⟨_, rfl⟩
  rw [← hi] at c16 hne hnum hile
  have HI : Hid (i = posOf (C b).xs k) := hi
  clear hi
  obtain ⟨m, hm⟩ : ∃ m, m = (C b).xs.length := ⟨_, rfl⟩
  rw [← hm] at hne hnum hile hl hln hlv LW0
  have HM : Hid (m = (C b).xs.length) := hm
  clear hm
  have HNE : Hid (∀ hh : i < m, (C b).xs[i]! ≠ k) := hne
  have HNU : Hid _ := hnum
  obtain ⟨ns, hns⟩ : ∃ ns, ns = (C b).xs.map (Value.int .u64) := ⟨_, rfl⟩
  obtain ⟨vs, hvs⟩ : ∃ vs, vs = (C b).xs.map (fun x => Value.int .u64 (vx x)) := ⟨_, rfl⟩
  rw [← hns] at LW0 hln
  rw [← hvs] at LW0 hlv
  have HNS : Hid (ns = (C b).xs.map (Value.int .u64) ∧ vs = (C b).xs.map (fun x => Value.int .u64 (vx x))) := ⟨hns, hvs⟩
  have HLN : Hid (ns.length = m ∧ vs.length = m) := ⟨hln, hlv⟩
  have HL0 : Hid _ := LW0
  have HP : Hid (Pre D C P N wd 0 b A B) := pre
  have HR : Hid (Rep w0 D C P N W) := h
  clear hne hnum hs hk hch h LW0 hns hvs hln hlv hnu hva pre hat
  go_enter Yba.func11, Yba.ntmps11
  go_upto_region 3 with (go_at_call 16; refine c16.mono ?_; rintro e w1 ⟨rfl, hb1⟩)
  have L1 := HL0.out.below hb1
  obtain ⟨d0, d1, f0, f1, bl1⟩ := L1.facts
  have HL1 : Hid _ := L1
  clear L1 c16
  go_cut [41] (fun vc wx => vc = .bool false ∧ wx = w1)
  case first =>
    by_cases hlt : i < m
    · obtain ⟨g, c', e, hc⟩ := HNU.out hlt
      have hc1 := (hb1.cell (p := ⟨g, i, none⟩) (World.block_lt_of_cell? W _ hc)).trans hc
      have hnk : ((C b).xs[i]! == k) = false := beq_eq_false_iff_ne.2 (HNE.out hlt)
      injection e with e1 e2 e3
      subst e1
      generalize (C b).xs[i]! = xi at hc1 hnk
      clear hc
      go_wp2_with fail
      all_goals go_meet
      all_goals exact ⟨rfl, rfl⟩
    · have hd : decide ((i : Int) < (m : Int)) = false := by simp; omega
      go_wp2_with fail
      all_goals go_meet
      all_goals exact ⟨rfl, rfl⟩
  case rest =>
    obtain ⟨rfl, rfl⟩ := hcut
    go_upto_region 6 with fail
    rename World => w1
    have L1 := HL1.out
    clear hb1 HL1 HL0 HNU HNE q c2 bl d0 d1 f0 f1 bl1
    refine r6 L1 hl ?_
    rintro _ _ _ _ _ _ _ _ _ _ _ _ _ _ _ _ _ _ _ w2 ⟨nu1, va1, L2⟩
    clear L1
    obtain ⟨l, hlm⟩ : ∃ l, l = m + 1 := ⟨_, rfl⟩
    rw [← hlm] at L2
    have HLM : Hid (l = m + 1) := hlm
    have hll : l ≤ 100 ∧ 0 < l ∧ i + 1 ≤ l := by omega
    clear hlm
    obtain ⟨g, c, rfl⟩ := own_some L2.nums hll.2.1
    obtain ⟨g2, c2, rfl⟩ := own_some L2.vals hll.2.1
    have o1 : ∀ u ∈ ns ++ [Value.int .u64 0], u.oneCell' = true := fun u hu => (List.mem_append.1 hu).elim (fun h => u64_one _ u (by rw [← HNS.out.1]; exact h)) (fun h => by simp at h; rw [h]; rfl)
    have o2 : ∀ u ∈ vs ++ [Value.int .u64 0], u.oneCell' = true := fun u hu => (List.mem_append.1 hu).elim (fun h => u64_one2 _ u (by rw [← HNS.out.2]; exact h)) (fun h => by simp at h; rw [h]; rfl)
    go_upto_region 7 with fail
    refine r7 L2 (by omega) (by omega) o1 ?_
    rintro _ _ _ _ _ _ _ _ _ _ _ _ _ _ w3 L3
    clear L2 o1
    go_upto_region 8 with fail
    refine r8 L3 (by omega) (by omega) o2 ?_
    rintro _ _ _ _ _ _ _ _ _ _ _ _ _ _ w4 L4
    clear L3 o2
    go_upto_region 9 with fail
    refine r9 L4 (by omega) (by omega) ?_
    rintro _ _ _ _ _ _ _ _ _ _ _ _ _ _ w5 L5
    clear L4
    have eN : (moved (ns ++ [Value.int .u64 0]) (i + 1) i (l - (i + 1))).set i (.int .u64 k) = (insK k (C b).xs).map (Value.int .u64) := by
      rw [HNS.out.1, HLM.out, HM.out, moved_set (Value.int .u64) _ _ _ _ (by rw [← HM.out]; omega), HI.out]; rfl
    have eV : (moved (vs ++ [Value.int .u64 0]) (i + 1) i (l - (i + 1))).set i (.int .u64 (vx k)) = (insK k (C b).xs).map (fun x => Value.int .u64 (vx x)) := by
      rw [HNS.out.2, HLM.out, HM.out, moved_set (fun x => Value.int .u64 (vx x)) _ _ _ _ (by rw [← HM.out]; omega), HI.out]; rfl
    rw [eN, eV] at L5
    clear eN eV
    obtain ⟨X, hX⟩ : ∃ X, X = insK k (C b).xs := ⟨_, rfl⟩
    rw [← hX] at L5
    have hXl : X.length = l := by rw [hX, insK_len, ← HM.out, ← HLM.out]
    obtain ⟨x0, hx0⟩ : ∃ x0, X.head? = some x0 := by
      obtain ⟨y, ys, e⟩ := List.exists_cons_of_ne_nil (insK_ne k (C b).xs)
      exact ⟨y, by rw [hX, e]; rfl⟩
    have hszb : (C b).sz = m := by rw [HP.out.wf.2.2.2.1, HM.out]
    go_upto_region 10 with fail
    refine r10 L5 hll.2.1 (x := x0) (by rw [List.getElem?_map, ← List.head?_eq_getElem?, hx0]; rfl) (by rw [hszb]; omega) ?_
    rintro _ _ _ _ _ _ _ _ _ _ _ _ _ _ _ _ _ w6 L6
    clear L5
    have hR := HR.out
    have pre := HP.out
    have T6 := LW.done hR hbD pre.wf.2.1 L6 hXl.symm hXl.symm rfl rfl
    rw [upd_id, upd_id] at T6
    obtain ⟨e0, e1, e2, e3, e4⟩ := L6.facts
    have hs1 : (C b).sz + 1 = (X.length : Int) := by rw [hszb, hXl, HLM.out]; omega
    have HX : Hid (X = insK k (C b).xs) := hX
    have HX0 : Hid (X.head? = some x0) := hx0
    have HS1 : Hid ((C b).sz + 1 = (X.length : Int)) := hs1
    have HXL : Hid (X.length = l) := hXl
    have HT6 : Hid _ := T6
    clear hX hx0 hs1 hXl T6 hR pre L6 hszb
    by_cases hsp : wd < l
    · have hdd : decide ((wd : Int) < (l : Int)) = true := by simp; exact hsp
      have hq2 : Int.tdiv (l : Int) 2 = ((l / 2 : Nat) : Int) := by rw [Int.tdiv_eq_ediv_of_nonneg (by omega)]; omega
      obtain ⟨h, hh⟩ : ∃ h, h = l / 2 := ⟨_, rfl⟩
      rw [← hh] at hq2
      have hwq : IntKind.i64.wrap (h : Int) = (h : Int) := by rw [IntKind.wrap_i64]; omega
      have hb1 : h < l ∧ 0 < h ∧ l ≤ wd + 1 := by have := HLM.out; have := HM.out; have := HP.out.wf.2.2.1; omega
      have HH : Hid (h = l / 2) := hh
      clear hh
      go_upto_region 13 with fail
      obtain ⟨C6, hC6⟩ : ∃ C6, C6 = upd C b ⟨.slice (some ⟨g, 0, none⟩) l c, .slice (some ⟨g2, 0, none⟩) l c2, .slice none 0 0, X, [], x0, (C b).sz + 1⟩ := ⟨_, rfl⟩
      have T6 := HT6.out
      rw [← hC6] at T6
      have c6b : C6 b = ⟨.slice (some ⟨g, 0, none⟩) l c, .slice (some ⟨g2, 0, none⟩) l c2, .slice none 0 0, X, [], x0, (C b).sz + 1⟩ := by rw [hC6, upd_same]
      have HC6 : Hid _ := hC6
      clear hC6 HT6 hdd hq2 hwq
      refine r13 T6.rep hbD (by rw [c6b]) (by rw [c6b]) (by rw [c6b]) (by rw [c6b]; exact HXL.out) (by omega) hb1.1 ?_
      rintro _ _ _ _ _ _ _ _ _ _ _ _ _ _ _ _ _ _ _ _ _ _ _ v9 w7 ⟨u, nuU, vaU, rfl, huw, T7⟩
      have huD : u ∉ D := fun hu => by have := (T6.rep.at_ u hu).row.lt; omega
      have hub : b ≠ u := fun e => huD (e ▸ hbD)
      rw [show (C6 b).xs = X by rw [c6b]] at T7
      obtain ⟨C7, hC7⟩ : ∃ C7, C7 = upd C6 u ⟨nuU, vaU, .slice none 0 0, X.drop h, [], 0, ((l - h : Nat) : Int)⟩ := ⟨_, rfl⟩
      rw [← hC7] at T7
      have c7u : C7 u = ⟨nuU, vaU, .slice none 0 0, X.drop h, [], 0, ((l - h : Nat) : Int)⟩ := by rw [hC7, upd_same]
      have c7b : C7 b = C6 b := by rw [hC7, upd_other _ _ hub]
      have hlu : (X.drop h).length = l - h := by rw [List.length_drop, HXL.out]
      have nuf := own_some (T7.rep.at_ u (by simp)).nums (by rw [c7u]; show 0 < (X.drop h).length; omega)
      rw [c7u] at nuf
      obtain ⟨gu, cu, hnu⟩ := nuf
      obtain ⟨y0, hy0⟩ : ∃ y0, (X.drop h)[0]? = some y0 := ⟨_, List.getElem?_eq_getElem (by omega)⟩
      have HC7 : Hid _ := hC7
      clear hC7
      go_upto_region 14 with fail
      refine r14 T7.rep (u := u) (by simp) (by rw [c7u]; exact hnu) (by show 0 < (X.drop h).length; omega) (y := y0) (by rw [c7u]; exact hy0) ?_
      rintro _ _ _ _ _ _ _ _ _ w8 T8
      obtain ⟨C8, hC8⟩ : ∃ C8, C8 = upd C7 u { C7 u with fi := y0 } := ⟨_, rfl⟩
      rw [← hC8] at T8
      have c8b : C8 b = C6 b := by rw [hC8, upd_other _ _ hub, c7b]
      have HC8 : Hid _ := hC8
      clear hC8
      have hbD8 : b ∈ u :: D := List.mem_cons_of_mem _ hbD
      have L8 := T8.rep.leaf hbD8 (by rw [c8b, c6b])
      rw [show (C8 b).nu = .slice (some ⟨g, 0, none⟩) l c by rw [c8b, c6b], show (C8 b).va = .slice (some ⟨g2, 0, none⟩) l c2 by rw [c8b, c6b], show (C8 b).xs = X by rw [c8b, c6b], HXL.out] at L8
      go_upto_region 15 with fail
      refine r15 L8 (by omega) hb1.1 ?_
      rintro _ _ _ _ _ _ w9 ⟨ys, L9, hys⟩
      go_upto_region 16 with fail
      refine r16 L9 (by omega) (Nat.le_of_lt hb1.1) ?_
      rintro _ _ _ _ _ _ _ _ _ _ _ _ _ _ _ _ _ _ _ _ _ _ w10 L10
      have htl : (X.take h).length = h := by rw [List.length_take, HXL.out]; omega
      have T10 := LW.done T8.rep hbD8 (by rw [c8b, c6b]) (xs := X.take h) L10 htl.symm htl.symm (by rw [List.map_take]) (by rw [hys, List.map_take])
      rw [upd_id, upd_id] at T10
      have hN8 : upd N u none b = N b := upd_other _ _ hub
      clear L8 L9 L10
      rw [show (C8 b).fi = x0 by rw [c8b, c6b]] at T10
      have eC : upd C8 b ⟨.slice (some ⟨g, 0, none⟩) h c, .slice (some ⟨g2, 0, none⟩) h c2, .slice none 0 0, X.take h, [], x0, (h : Nat)⟩ = upd (upd C b ⟨.slice (some ⟨g, 0, none⟩) h c, .slice (some ⟨g2, 0, none⟩) h c2, .slice none 0 0, X.take h, [], x0, (h : Nat)⟩) u ⟨nuU, vaU, .slice none 0 0, X.drop h, [], y0, ((l - h : Nat) : Int)⟩ := by
        funext x
        by_cases x1 : x = b
        · subst x1; rw [upd_same, upd_other _ _ hub, upd_same]
        · by_cases x2 : x = u
          · subst x2; rw [upd_other _ _ x1, HC8.out, upd_same, c7u, upd_same]
          · rw [upd_other _ _ x1, HC8.out, upd_other _ _ x2, HC7.out, upd_other _ _ x2, HC6.out, upd_other _ _ x1, upd_other _ _ x2, upd_other _ _ x1]
      rw [eC] at T10
      clear eC
      go_upto_region 17 with fail
      refine r17 T10.rep hbD8 (u := u) (by simp) ?_
      rintro _ _ _ _ _ _ _ _ _ _ _ w11 T11
      have hN11 : (upd (upd N u none) u (upd N u none b)) b = N b := by rw [upd_other _ _ hub, hN8]
      have ecell : w11.cell? ⟨b, 6, none⟩ = some (ptrV (N b)) := by
        rw [(T11.rep.at_ b hbD8).row.cell (i := 6) (by omega), ← hN11]; rfl
      have bl11 := (T11.rep.at_ b hbD8).row.lt
      have TT := ((((T6.trans T7).trans T8).trans T10).trans T11)
      have HT11 : Hid _ := T11
      have HTT : Hid _ := TT
      have pre := HP.out
      have hnxt : ∀ q, N b = some q → q ∈ D := fun q hq => by
        have hlk := pre.lk
        simp only [leaves, List.append_assoc, List.singleton_append] at hlk
        have h1 := (Lk_at hlk).2
        exact (pre.ab q (.inr (List.mem_of_head? (h1.symm.trans hq)))).1
      clear T6 T7 T8 T10 T11 TT pre c6b c7u c7b c8b hnu
      have hN8' := hN8
      clear hN8
      have HN8 : Hid _ := hN8'
      have HN11 : Hid _ := hN11
      clear hN8' hN11
      have hub' : u ≠ b := fun e => hub e.symm
      cases hNb : N b with
      | none =>
        rw [hNb] at ecell
        have ecell2 : w11.cell? ⟨b, 6, none⟩ = some (.pointer none) := ecell
        have HNb : Hid _ := hNb
        clear ecell hNb
        go_upto_region 20 with fail
        refine r20 HT11.out.rep hbD8 ?_
        rintro _ _ _ _ w12 T12
        go_wp2_with fail
        go_ret2
        have key := leaf1 HP.out huD ((List.take_append_drop h X).trans HX.out) (fun e => by have e' : X.take h = [] := e; rw [e'] at htl; simp at htl; omega) (fun e => by have e' : X.drop h = [] := e; rw [e'] at hlu; simp at hlu; omega) rfl rfl (by show (X.take h).length ≤ wd; omega) (by show ((h : Nat) : Int) = ((X.take h).length : Int); rw [htl]) (fun x hx => by
            show x0 = x
            have h1 : (X.take h).head? = some x := hx
            rw [List.head?_take, if_neg (by omega), HX0.out] at h1
            exact Option.some.inj h1) rfl rfl (by show (X.drop h).length ≤ wd; have := HH.out; omega) (by show ((l - h : Nat) : Int) = ((X.drop h).length : Int); rw [hlu]) (fun x hx => by
            show y0 = x
            have h1 : (X.drop h).head? = some x := hx
            rw [List.head?_eq_getElem?, hy0] at h1
            exact Option.some.inj h1)
          (by rw [upd_same]) (by rw [upd_other _ _ hub', upd_same, HN8.out]) (upd_same _ _ _) (fun q hq => by rw [HNb.out] at hq; cases hq) (fun x hx _ => by rw [upd_other _ _ (fun (e : x = u) => huD (e ▸ hx)), upd_other _ _ (fun (e : x = u) => huD (e ▸ hx))]) (fun x hx hxb => by rw [upd_other _ _ hxb, upd_other _ _ (fun (e : x = u) => huD (e ▸ hx)), upd_other _ _ (fun (e : x = u) => huD (e ▸ hx))]) (HTT.out.trans T12)
        first | exact ⟨some u, rfl, u :: D, _, _, _, key⟩ | exact ⟨some u, u :: D, _, _, _, rfl, key⟩
      | some q =>
        rw [hNb] at ecell
        have ecell2 : w11.cell? ⟨b, 6, none⟩ = some (.pointer (some ⟨q, 0, none⟩)) := ecell
        have hqD := hnxt q hNb
        have hqu : u ≠ q := fun e => huD (e ▸ hqD)
        have HNb : Hid _ := hNb
        clear ecell hNb
        go_upto_region 19 with fail
        refine r19 HT11.out.rep hbD8 (List.mem_cons_of_mem _ hqD) (HN11.out.trans HNb.out) ?_
        rintro _ _ _ _ _ _ _ w12 T12
        go_upto_region 20 with fail
        refine r20 T12.rep hbD8 ?_
        rintro _ _ _ _ w13 T13
        go_wp2_with fail
        go_ret2
        have key := leaf1 HP.out huD ((List.take_append_drop h X).trans HX.out) (fun e => by have e' : X.take h = [] := e; rw [e'] at htl; simp at htl; omega) (fun e => by have e' : X.drop h = [] := e; rw [e'] at hlu; simp at hlu; omega) rfl rfl (by show (X.take h).length ≤ wd; omega) (by show ((h : Nat) : Int) = ((X.take h).length : Int); rw [htl]) (fun x hx => by
            show x0 = x
            have h1 : (X.take h).head? = some x := hx
            rw [List.head?_take, if_neg (by omega), HX0.out] at h1
            exact Option.some.inj h1) rfl rfl (by show (X.drop h).length ≤ wd; have := HH.out; omega) (by show ((l - h : Nat) : Int) = ((X.drop h).length : Int); rw [hlu]) (fun x hx => by
            show y0 = x
            have h1 : (X.drop h).head? = some x := hx
            rw [List.head?_eq_getElem?, hy0] at h1
            exact Option.some.inj h1)
          (by rw [upd_other _ _ hqu, upd_same]) (by rw [upd_other _ _ hub', upd_same, HN8.out]) (upd_same _ _ _) (fun q' hq => by rw [HNb.out] at hq; cases hq; exact upd_same _ _ _) (fun x hx hxn => by rw [upd_other _ _ (fun e => hxn (by rw [e]; exact HNb.out)), upd_other _ _ (fun (e : x = u) => huD (e ▸ hx)), upd_other _ _ (fun (e : x = u) => huD (e ▸ hx))]) (fun x hx hxb => by rw [upd_other _ _ hxb, upd_other _ _ (fun (e : x = u) => huD (e ▸ hx)), upd_other _ _ (fun (e : x = u) => huD (e ▸ hx))]) ((HTT.out.trans T12).trans T13)
        first | exact ⟨some u, rfl, u :: D, _, _, _, key⟩ | exact ⟨some u, u :: D, _, _, _, rfl, key⟩
    · have hdd : decide ((wd : Int) < (l : Int)) = false := by simp; omega
      go_wp2_with fail
      go_ret2
      exact ⟨none, D, _, P, N, rfl, leaf0 HP.out HX.out rfl rfl (by show X.length ≤ wd; rw [HXL.out]; omega) HS1.out (fun x hx => Option.some.inj (HX0.out.symm.trans hx)) HT6.out⟩

end Go.Proofs.Ybulkbiy
