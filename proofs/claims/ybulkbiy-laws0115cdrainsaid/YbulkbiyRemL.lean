import Derived.Test.YbulkbiyRv
import Derived.Test.YbulkbiyRq
import Derived.Test.YbulkbiyRs
import Derived.Test.YbulkbiyRemP
import Derived.Test.YbulkbiyInsL
/-! remove (7) at a leaf. -/
namespace Go.Proofs.Ybulkbiy
attribute [local go_sem ↓] Go.wp_at_zero Go.wp_at_succ
open Go.RowKit Go.Maps Go.Sort

set_option maxHeartbeats 4000000 in
set_option maxRecDepth 100000 in
theorem rem_leaf_none (w0 : World) (D : List Nat) (C : Nat → Nd) (P N : Nat → Option Nat) (W : World) (wd b : Nat) (A B : List Nat) (h : Rep w0 D C P N W) (pre : Pre D C P N wd 0 b A B) (hwd : 2 ≤ wd ∧ wd ≤ 99) (k : Int) (hk : k ∉ (C b).xs) :
    Calls Yba.prog 7 #[.pointer (some ⟨b, 0, none⟩), .int .u64 k] W fun e w' => e = .returned (.bool false) ∧ St w0 D C W D C P N w' := by
  have hbD : b ∈ D := pre.idD b (by simp [ids])
  have hat := h.at_ b hbD
  have hs : (C b).xs.Pairwise (· < ·) := pre.srt
  have hch : (C b).ch = .slice none 0 0 := pre.wf.1
  have hl : (C b).xs.length ≤ 99 := by have := pre.wf.2.2.1; omega
  have c16 := placeL hat hs (by omega) k
  obtain ⟨a, c, hnu⟩ := own_formY hat.nums
  have c0 : W.cell? ⟨b, 0, none⟩ = some (.slice a (C b).xs.length c) := by rw [hat.row.cell (i := 0) (by omega), ← hnu]; rfl
  have c2 : W.cell? ⟨b, 2, none⟩ = some (.slice none 0 0) := by rw [hat.row.cell (i := 2) (by omega), ← hch]; rfl
  have hne : ∀ hh : posOf (C b).xs k < (C b).xs.length, (C b).xs[posOf (C b).xs k]! ≠ k := fun hh e => hk ((mem_at hs).2 (by rw [List.getElem?_eq_getElem hh, ← getElem!_pos (C b).xs _ hh, e]))
  have hnum := fun hh : posOf (C b).xs k < (C b).xs.length => hat.num hh
  have hile := posOf_le (C b).xs k
  have bl := hat.row.lt
  rw [hnu] at hnum
  have q := q30
  have HR : Hid _ := h
  generalize posOf (C b).xs k = i at c16 hne hnum hile
  by_cases hlt : i < (C b).xs.length
  · obtain ⟨g, c', e, hc⟩ := hnum hlt
    injection e with e1 e2 e3
    subst e1
    have gl := World.block_lt_of_cell? W _ hc
    simp only at gl
    have hnk : ((C b).xs[i]! == k) = false := beq_eq_false_iff_ne.2 (hne hlt)
    have hil : ((i : Int) == ((C b).xs.length : Int)) = false := beq_eq_false_iff_ne.2 (by omega)
    generalize (C b).xs[i]! = xi at hc hnk
    generalize (C b).xs.length = m at c0 hlt hl hile hil
    clear hne hnum hs hk hch h pre hat hnu e2
    go_enter Yba.func7, Yba.ntmps7
    go_wp2_with (go_at_call 16; refine c16.mono ?_; rintro e w1 ⟨rfl, hb1⟩; have d0 := (hb1.cell (p := ⟨b, 0, none⟩) bl).trans c0; have d1 := (hb1.cell (p := ⟨g, i, none⟩) gl).trans hc; have bl1 := Nat.lt_of_lt_of_le bl hb1.size)
    go_ret
    exact ⟨rfl, HR.out.below hb1⟩
  · have hil : ((i : Int) == ((C b).xs.length : Int)) = true := by simp; omega
    generalize (C b).xs.length = m at c0 hlt hl hile hil
    clear hne hnum hs hk hch h pre hat hnu
    go_enter Yba.func7, Yba.ntmps7
    go_wp2_with (go_at_call 16; refine c16.mono ?_; rintro e w1 ⟨rfl, hb1⟩; have d0 := (hb1.cell (p := ⟨b, 0, none⟩) bl).trans c0; have bl1 := Nat.lt_of_lt_of_le bl hb1.size)
    go_ret
    exact ⟨rfl, HR.out.below hb1⟩

set_option maxHeartbeats 8000000 in
set_option maxRecDepth 100000 in
theorem rem_leaf_one (w0 : World) (D : List Nat) (C : Nat → Nd) (P N : Nat → Option Nat) (W : World) (wd b : Nat) (A B : List Nat) (h : Rep w0 D C P N W) (pre : Pre D C P N wd 0 b A B) (hwd : 2 ≤ wd ∧ wd ≤ 99) (k : Int) (hk : k ∈ (C b).xs) :
    Calls Yba.prog 7 #[.pointer (some ⟨b, 0, none⟩), .int .u64 k] W fun e w' => e = .returned (.bool true) ∧ ∃ C' P' N', RemPost w0 D C W wd 0 b k A B C' P' N' w' := by
  have hbD : b ∈ D := pre.idD b (by simp [ids])
  have hat := h.at_ b hbD
  have hs : (C b).xs.Pairwise (· < ·) := pre.srt
  have hch : (C b).ch = .slice none 0 0 := pre.wf.1
  have hl : (C b).xs.length ≤ 99 := by have := pre.wf.2.2.1; omega
  have c16 := placeL hat hs (by omega) k
  have LW0 := h.leaf hbD hch
  have hatk := (mem_at hs).1 hk
  have hlt := (List.getElem?_eq_some_iff.1 hatk).1
  obtain ⟨g, c, hnu, hc⟩ := hat.num hlt
  obtain ⟨g2, cv, hva⟩ := own_some hat.vals (by omega)
  have hx : (C b).xs[posOf (C b).xs k]! = k := by
    rw [getElem!_pos (C b).xs _ hlt]
    exact (List.getElem?_eq_some_iff.1 hatk).2
  rw [hx] at hc
  have c0 : W.cell? ⟨b, 0, none⟩ = some (.slice (some ⟨g, 0, none⟩) (C b).xs.length c) := by rw [hat.row.cell (i := 0) (by omega), ← hnu]; rfl
  have c2 : W.cell? ⟨b, 2, none⟩ = some (.slice none 0 0) := by rw [hat.row.cell (i := 2) (by omega), ← hch]; rfl
  have bl := hat.row.lt
  have gl := World.block_lt_of_cell? W _ hc
  simp only at gl
  rw [hnu, hva] at LW0
  have her := erase_at hs hk
  have q := q30
  obtain ⟨i, hi⟩ : ∃ i, i = posOf (C b).xs k := ⟨_, rfl⟩
  rw [← hi] at c16 hc hlt her
  obtain ⟨m, hm⟩ : ∃ m, m = (C b).xs.length := ⟨_, rfl⟩
  rw [← hm] at hlt hl c0 LW0
  have HM : Hid (m = (C b).xs.length) := hm
  have HER : Hid ((C b).xs.erase k = (C b).xs.take i ++ (C b).xs.drop (i + 1)) := her
  have o1 := u64_one (C b).xs
  have o2 := u64_one2 (C b).xs
  have hil : ((i : Int) == (m : Int)) = false := beq_eq_false_iff_ne.2 (by omega)
  have HL0 : Hid _ := LW0
  have HP : Hid (Pre D C P N wd 0 b A B) := pre
  have HR : Hid (Rep w0 D C P N W) := h
  obtain ⟨last, hla⟩ : ∃ last, last + 1 = m := ⟨m - 1, by omega⟩
  have hwl : IntKind.i64.wrap ((m : Int) - 1) = (last : Int) := by rw [IntKind.wrap_i64]; omega
  have HLA : Hid (last + 1 = m) := hla
  have hlm : last < m := by omega
  clear hs hk hch h LW0 hnu hva pre hat her hi hm hx hatk hla
  go_enter Yba.func7, Yba.ntmps7
  go_upto_region 6 with (go_at_call 16; refine c16.mono ?_; rintro e w1 ⟨rfl, hb1⟩; have d0 := (hb1.cell (p := ⟨b, 0, none⟩) bl).trans c0; have d1 := (hb1.cell (p := ⟨g, i, none⟩) gl).trans hc; have bl1 := Nat.lt_of_lt_of_le bl hb1.size)
  have L1 := HL0.out.below hb1
  clear d0 d1 bl1 c16 hc c0 c2 bl gl q HL0 hil hwl
  refine q6 L1 (by omega) (by omega) o1 ?_
  rintro _ _ _ _ _ _ _ _ _ _ _ _ _ _ w2 L2
  go_upto_region 7 with fail
  refine q7 L2 (by omega) (by omega) o2 ?_
  rintro _ _ _ _ _ _ _ _ _ _ _ _ _ _ w3 L3
  go_upto_region 8 with fail
  refine q8 L3 (by omega) hlm ?_
  rintro _ _ _ _ _ _ w4 ⟨ys, L4, hys⟩
  go_upto_region 9 with fail
  refine q9 L4 (by omega) (Nat.le_of_lt hlm) ?_
  rintro _ _ _ _ _ _ _ _ _ _ _ _ _ _ _ _ _ _ _ _ _ _ w5 L5
  obtain ⟨X, hX⟩ : ∃ X, X = (C b).xs.erase k := ⟨_, rfl⟩
  have eN : (moved ((C b).xs.map (Value.int .u64)) i (i + 1) (m - (i + 1))).take last = X.map (Value.int .u64) := by
    have h1 := moved_cut ((C b).xs.map (Value.int .u64)) i (by rw [List.length_map, ← HM.out]; exact hlt)
    rw [List.length_map, ← HM.out, show m - 1 = last by have := HLA.out; omega] at h1
    rw [h1, hX, HER.out, List.map_append, List.map_take, List.map_drop]
  have eV : ys.take last = X.map (fun x => Value.int .u64 (vx x)) := by
    have h1 := moved_cut ((C b).xs.map (fun x => Value.int .u64 (vx x))) i (by rw [List.length_map, ← HM.out]; exact hlt)
    rw [List.length_map, ← HM.out, show m - 1 = last by have := HLA.out; omega] at h1
    rw [hys, h1, hX, HER.out, List.map_append, List.map_take, List.map_drop]
  have hXl : X.length = last := by
    rw [hX, HER.out, List.length_append, List.length_take, List.length_drop, ← HM.out]
    have := HLA.out
    omega
  have T5 := LW.done HR.out hbD HP.out.wf.2.1 (xs := X) L5 hXl.symm hXl.symm eN eV
  rw [upd_id, upd_id] at T5
  obtain ⟨f0, f1, f2, f3⟩ := L5.facts2
  have bl5 := L5.row.lt
  clear L1 L2 L3 L4 L5 o1 o2 hys eN eV
  have HX : Hid (X = (C b).xs.erase k) := hX
  have HXL : Hid (X.length = last) := hXl
  have HT5 : Hid _ := T5
  have hlw : last ≤ wd := by have := HP.out.wf.2.2.1; have := HM.out; have := HLA.out; omega
  clear hX T5
  by_cases h0 : 0 < last
  · have hdd : decide ((0 : Int) < (last : Int)) = true := by simp; exact h0
    obtain ⟨y0, hy0⟩ : ∃ y0, X[0]? = some y0 := ⟨_, List.getElem?_eq_getElem (by omega)⟩
    go_upto_region 11 with fail
    refine q11 HT5.out.rep hbD (g := g) (l := last) (c := c) (by rw [upd_same]) h0 (y := y0) (by rw [upd_same]; exact hy0) ?_
    rintro _ _ _ _ _ _ _ _ _ w6 T6
    go_wp2_with fail
    go_ret
    have TF := HT5.out.trans T6
    have eC : upd (upd C b ⟨.slice (some ⟨g, 0, none⟩) last c, .slice (some ⟨g2, 0, none⟩) last cv, .slice none 0 0, X, [], (C b).fi, (last : Nat)⟩) b { (upd C b ⟨.slice (some ⟨g, 0, none⟩) last c, .slice (some ⟨g2, 0, none⟩) last cv, .slice none 0 0, X, [], (C b).fi, (last : Nat)⟩) b with fi := y0 } = upd C b ⟨.slice (some ⟨g, 0, none⟩) last c, .slice (some ⟨g2, 0, none⟩) last cv, .slice none 0 0, X, [], y0, (last : Nat)⟩ := by
      rw [upd_same]
      funext x
      by_cases e : x = b
      · subst e; rw [upd_same, upd_same]
      · rw [upd_other _ _ e, upd_other _ _ e, upd_other _ _ e]
    rw [eC] at TF
    refine ⟨rfl, _, P, N, leafR0 HP.out HX.out (fun e => ?_) rfl rfl (by show X.length ≤ wd; omega) (by show ((last : Nat) : Int) = (X.length : Int); rw [HXL.out]) (fun x hx => ?_) TF⟩
    · have e' : X = [] := e
      rw [e'] at hXl; simp at hXl; omega
    · have hx' : X.head? = some x := hx
      rw [List.head?_eq_getElem?, hy0] at hx'
      exact Option.some.inj hx'
  · have hz : last = 0 := by omega
    subst hz
    have pre := HP.out
    have hlk := pre.lk
    simp only [leaves, List.append_assoc, List.singleton_append] at hlk
    have hlnd := pre.lnd
    simp only [leaves, List.append_assoc, List.singleton_append] at hlnd
    obtain ⟨hPA, hNB⟩ := Lk_at hlk
    rw [Option.or_none] at hPA
    rw [List.nodup_append, List.nodup_cons] at hlnd
    have hpD : ∀ y, P b = some y → y ∈ D ∧ y ≠ b := fun y hy => by
      have hm := List.mem_of_getLast? (hPA.symm.trans hy)
      exact ⟨(pre.ab y (.inl hm)).1, fun e => hlnd.2.2 y hm b (by simp) e⟩
    have hnD : ∀ y, N b = some y → y ∈ D ∧ y ≠ b := fun y hy => by
      have hm := List.mem_of_head? (hNB.symm.trans hy)
      exact ⟨(pre.ab y (.inr hm)).1, fun e => hlnd.2.1.1 (e ▸ hm)⟩
    have hpn : ∀ y, P b = some y → N b ≠ some y := fun y hy e => by
      have hm := List.mem_of_getLast? (hPA.symm.trans hy)
      have hm2 := List.mem_of_head? (hNB.symm.trans e)
      exact hlnd.2.2 y hm y (List.mem_cons_of_mem _ hm2) rfl
    have hXe : X = [] := List.length_eq_zero_iff.1 HXL.out
    have rN := HT5.out.rep
    have g5 : w5.cell? ⟨b, 5, none⟩ = some (ptrV (P b)) := (rN.at_ b hbD).row.cell (i := 5) (by omega)
    have g6 : w5.cell? ⟨b, 6, none⟩ = some (ptrV (N b)) := (rN.at_ b hbD).row.cell (i := 6) (by omega)
    have HPD : Hid _ := hpD
    have HND : Hid _ := hnD
    have HPN : Hid _ := hpn
    clear hlk hlnd hPA hNB pre rN hpD hnD hpn
    cases hPb : P b with
    | none =>
      rw [hPb] at g5
      have g5' : w5.cell? ⟨b, 5, none⟩ = some (.pointer none) := g5
      have HPb : Hid _ := hPb
      clear g5 hPb
      cases hNb : N b with
      | none =>
        rw [hNb] at g6
        have g6' : w5.cell? ⟨b, 6, none⟩ = some (.pointer none) := g6
        have HNb : Hid _ := hNb
        clear g6 hNb
        go_wp2_with fail
        go_ret
        exact ⟨rfl, _, P, N, leafR1 HP.out HX.out hXe rfl rfl rfl (fun c hc => by rw [HNb.out] at hc; cases hc) (fun c hc => by rw [HPb.out] at hc; cases hc) (fun _ _ _ => rfl) (fun _ _ _ => rfl) HT5.out⟩
      | some y =>
        rw [hNb] at g6
        have g6' : w5.cell? ⟨b, 6, none⟩ = some (.pointer (some ⟨y, 0, none⟩)) := g6
        have HNb : Hid _ := hNb
        clear g6 hNb
        go_upto_region 15 with fail
        refine q15 HT5.out.rep hbD (HND.out y HNb.out).1 HNb.out ?_
        rintro _ _ _ _ _ _ _ _ _ _ w6 T6
        go_wp2_with fail
        go_ret
        exact ⟨rfl, _, _, N, leafR1 HP.out HX.out hXe rfl rfl rfl (fun c hc => by rw [HNb.out] at hc; cases hc; exact upd_same _ _ _) (fun c hc => by rw [HPb.out] at hc; cases hc) (fun x _ hx => upd_other _ _ (fun (e : x = y) => hx (by rw [e]; exact HNb.out))) (fun _ _ _ => rfl) (HT5.out.trans T6)⟩
    | some z =>
      rw [hPb] at g5
      have g5' : w5.cell? ⟨b, 5, none⟩ = some (.pointer (some ⟨z, 0, none⟩)) := g5
      have HPb : Hid _ := hPb
      have hzb := (HPD.out z hPb).2
      have hzD := (HPD.out z hPb).1
      clear g5 hPb
      go_upto_region 13 with fail
      refine q13 HT5.out.rep hbD hzD HPb.out ?_
      rintro _ _ _ _ _ _ _ _ _ _ w6 T6
      have g7 : w6.cell? ⟨b, 6, none⟩ = some (ptrV (N b)) := by
        rw [(T6.rep.at_ b hbD).row.cell (i := 6) (by omega)]
        show some (ptrV (upd N z (N b) b)) = _
        rw [upd_other _ _ (fun e => hzb e.symm)]
      have bl6 := (T6.rep.at_ b hbD).row.lt
      have HT6 : Hid _ := T6
      clear g6 T6
      cases hNb : N b with
      | none =>
        rw [hNb] at g7
        have g7' : w6.cell? ⟨b, 6, none⟩ = some (.pointer none) := g7
        have HNb : Hid _ := hNb
        clear g7 hNb
        go_wp2_with fail
        go_ret
        exact ⟨rfl, _, P, _, leafR1 HP.out HX.out hXe rfl rfl rfl (fun c hc => by rw [HNb.out] at hc; cases hc) (fun c hc => by rw [HPb.out] at hc; cases hc; exact upd_same _ _ _) (fun _ _ _ => rfl) (fun x _ hx => upd_other _ _ (fun (e : x = z) => hx (by rw [e]; exact HPb.out))) (HT5.out.trans HT6.out)⟩
      | some y =>
        rw [hNb] at g7
        have g7' : w6.cell? ⟨b, 6, none⟩ = some (.pointer (some ⟨y, 0, none⟩)) := g7
        have HNb : Hid _ := hNb
        clear g7 hNb
        go_upto_region 15 with fail
        refine q15 HT6.out.rep hbD (HND.out y HNb.out).1 (by rw [upd_other _ _ (fun e => hzb e.symm)]; exact HNb.out) ?_
        rintro _ _ _ _ _ _ _ _ _ _ w7 T7
        go_wp2_with fail
        go_ret
        exact ⟨rfl, _, _, _, leafR1 HP.out HX.out hXe rfl rfl rfl (fun c hc => by rw [HNb.out] at hc; cases hc; exact upd_same _ _ _) (fun c hc => by rw [HPb.out] at hc; cases hc; exact upd_same _ _ _) (fun x _ hx => upd_other _ _ (fun (e : x = y) => hx (by rw [e]; exact HNb.out))) (fun x _ hx => upd_other _ _ (fun (e : x = z) => hx (by rw [e]; exact HPb.out))) ((HT5.out.trans HT6.out).trans T7)⟩

end Go.Proofs.Ybulkbiy
