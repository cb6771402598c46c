import Derived.Test.YbulkbiyRemL
import Derived.Test.YbulkbiyPlainS
/-! remove (7) at an inner node. -/
namespace Go.Proofs.Ybulkbiy
attribute [local go_sem ↓] Go.wp_at_zero Go.wp_at_succ
open Go.RowKit Go.Maps Go.Sort

def RemRes (w0 : World) (D : List Nat) (C : Nat → Nd) (P N : Nat → Option Nat) (W : World) (wd d b : Nat) (k : Int) (A B : List Nat) (e : Ending) (w' : World) : Prop :=
  (k ∉ elems C d b ∧ e = .returned (.bool false) ∧ St w0 D C W D C P N w') ∨
  (k ∈ elems C d b ∧ e = .returned (.bool true) ∧ ∃ C' P' N', RemPost w0 D C W wd d b k A B C' P' N' w')

set_option maxHeartbeats 4000000 in
set_option maxRecDepth 100000 in
theorem rem_inner_none (w0 : World) (D : List Nat) (C : Nat → Nd) (P N : Nat → Option Nat) (W : World) (wd d b : Nat) (A B : List Nat) (h : Rep w0 D C P N W) (pre : Pre D C P N wd (d + 1) b A B) (hwd : 2 ≤ wd ∧ wd ≤ 99) (k : Int) (hks0 : (C b).ks ≠ []) (hlen : (elems C (d + 1) b).length ≤ 1000)
    (IH : ∀ (D : List Nat) (C : Nat → Nd) (P N : Nat → Option Nat) (W : World) (b : Nat) (A B : List Nat), Rep w0 D C P N W → Pre D C P N wd d b A B → elems C d b ≠ [] → (elems C d b).length ≤ 1000 → Calls Yba.prog 7 #[.pointer (some ⟨b, 0, none⟩), .int .u64 k] W (RemRes w0 D C P N W wd d b k A B)) (hk : k ∉ elems C (d + 1) b) :
    Calls Yba.prog 7 #[.pointer (some ⟨b, 0, none⟩), .int .u64 k] W fun e w' => e = .returned (.bool false) ∧ St w0 D C W D C P N w' := by
  have hbD : b ∈ D := pre.idD b (ids_self _ _)
  have hat := h.at_ b hbD
  obtain ⟨⟨g, c, hch⟩, hxs, hkw, hszb, hfib, hkids⟩ := pre.wf
  obtain ⟨ks, hks⟩ : ∃ ks, ks = (C b).ks := ⟨_, rfl⟩
  obtain ⟨n, hn⟩ : ∃ n, n = ks.length := ⟨_, rfl⟩
  rw [← hks, ← hn] at hch
  rw [← hks] at hkids hkw hks0 hszb
  have hsrt : (ks.flatMap (elems C d)).Pairwise (· < ·) := by rw [hks]; exact pre.srt
  have hkD : ∀ x ∈ ks, x ∈ D := fun x hx => pre.idD x (by rw [hks] at hx; exact ids_kid hx (ids_self _ _))
  obtain ⟨hj, hpL, hpR⟩ := pick hkids hsrt hks0 k
  have hn2 : (C b).ks.length = n := by rw [hn, hks]
  have c17 := child17 b g n c (fun i => (C ks[i]!).fi) (fun i => ks[i]!) k W hat.row.lt (by rw [hat.row.cell (i := 2) (by omega), ← hch]; rfl) (by omega) (fun i hi => ⟨by rw [h.kidcell hbD hch hn2 hi, hks], h.ficell (hkD _ (by rw [getElem!_pos ks i (by omega)]; exact List.getElem_mem _))⟩) (fun i j hij hjn => kids_mono hkids hsrt i j hij (by omega))
  have hkc : ((List.range n).countP (fun i => !decide (k < (C ks[i]!).fi)) - 1 : Nat) = kidAt C ks k := by rw [hn]; rfl
  rw [hkc] at c17
  clear hkc
  obtain ⟨j, hjj⟩ : ∃ j, j = kidAt C ks k := ⟨_, rfl⟩
  rw [← hjj] at c17 hj hpL hpR
  obtain ⟨cj, hcj⟩ : ∃ cj, cj = ks[j]! := ⟨_, rfl⟩
  have hsp := split_at ks hj
  rw [← hcj] at hsp
  have hcjm : cj ∈ ks := by rw [hsp]; simp
  have hkj := h.kidcell hbD hch hn2 (i := j) (by omega)
  rw [← hks, ← hcj] at hkj
  have gl := World.block_lt_of_cell? W _ hkj
  have bl := hat.row.lt
  have hc2 : W.cell? ⟨b, 2, none⟩ = some (.slice (some ⟨g, 0, none⟩) n c) := by rw [hat.row.cell (i := 2) (by omega), ← hch]; rfl
  obtain ⟨pk, hbk, hdis⟩ := pre.kid (L := ks.take j) (R := ks.drop (j + 1)) (c := cj) (by rw [← hks]; exact hsp)
  have hek : (elems C d cj).length ≤ 1000 := by
    have h1 : elems C (d + 1) b = (ks.take j).flatMap (elems C d) ++ elems C d cj ++ (ks.drop (j + 1)).flatMap (elems C d) := by
      show (C b).ks.flatMap (elems C d) = _
      rw [← hks]
      conv => lhs; rw [hsp]
      simp
    rw [h1] at hlen
    simp only [List.length_append] at hlen
    omega
  have hEl : elems C (d + 1) b = (ks.take j).flatMap (elems C d) ++ elems C d cj ++ (ks.drop (j + 1)).flatMap (elems C d) := by
    show (C b).ks.flatMap (elems C d) = _
    rw [← hks]
    conv => lhs; rw [hsp]
    simp
  have hmm : k ∈ elems C (d + 1) b ↔ k ∈ elems C d cj := by rw [hEl]; exact mem_mid hpL hpR
  have hjn : j < n := by omega
  have q := q30
  have cIH := fun (w1 : World) (hb1 : Below W.heap.size W w1) => (IH D C P N w1 cj _ _ (h.below hb1).rep pk (hkids cj hcjm).2 hek)
  have HCH : Hid ((C b).ch = .slice (some ⟨g, 0, none⟩) n c) := hch
  have HN : Hid (n = ks.length) := hn
  have HKS : Hid (ks = (C b).ks) := hks
  have HSP : Hid (ks = ks.take j ++ cj :: ks.drop (j + 1)) := hsp
  have HEL : Hid _ := hEl
  have HPK : Hid _ := pk
  have HMM : Hid _ := hmm
  have HPL : Hid _ := hpL
  have HPR : Hid _ := hpR
  have HPRE : Hid _ := pre
  have HR : Hid _ := h
  have HXS : Hid _ := hxs
  have HSZ : Hid _ := hszb
  have HKD : Hid _ := hkD
  have HKIDS : Hid _ := hkids
  have HKW : Hid (ks.length ≤ wd) := hkw
  have HCJ : Hid _ := hcj
  have HLEN : Hid _ := hlen
  have HIH : Hid _ := IH
  have hnw : n ≤ 99 := by omega
  clear hch hn hks hsp hEl pk hmm hpL hpR pre h hxs hszb hkD hkids hkw hcj hlen hsrt hjj hn2 hat hfib hks0 hbk hdis hcjm IH hj hek
  have HkC := fun hx => hk (HMM.out.2 hx)
  go_enter Yba.func7, Yba.ntmps7
  go_upto_region 18 with (go_at_call 17; refine c17.mono ?_; rintro e w1 ⟨rfl, hb1⟩)
  have d0 := (hb1.cell (p := ⟨b, 2, none⟩) bl).trans hc2
  have d1 := (hb1.cell (p := ⟨g, j, none⟩) gl).trans hkj
  have bl1 := Nat.lt_of_lt_of_le bl hb1.size
  have cc := cIH w1 hb1
  have HB1 : Hid _ := hb1
  clear hkj hc2 bl gl hb1 cIH q c17
  go_wp2_with (go_at_call 7; refine cc.mono ?_; rintro e w2 hres; obtain ⟨_, rfl, T2⟩ := Or.resolve_right hres (fun h => HkC h.1))
  go_ret
  exact ⟨rfl, (HR.out.below HB1.out).trans T2⟩

set_option maxHeartbeats 8000000 in
set_option maxRecDepth 100000 in
theorem rem_inner_one (w0 : World) (D : List Nat) (C : Nat → Nd) (P N : Nat → Option Nat) (W : World) (wd d b : Nat) (A B : List Nat) (h : Rep w0 D C P N W) (pre : Pre D C P N wd (d + 1) b A B) (hwd : 2 ≤ wd ∧ wd ≤ 99) (k : Int) (hks0 : (C b).ks ≠ []) (hlen : (elems C (d + 1) b).length ≤ 1000)
    (IH : ∀ (D : List Nat) (C : Nat → Nd) (P N : Nat → Option Nat) (W : World) (b : Nat) (A B : List Nat), Rep w0 D C P N W → Pre D C P N wd d b A B → elems C d b ≠ [] → (elems C d b).length ≤ 1000 → Calls Yba.prog 7 #[.pointer (some ⟨b, 0, none⟩), .int .u64 k] W (RemRes w0 D C P N W wd d b k A B)) (hk : k ∈ elems C (d + 1) b) :
    Calls Yba.prog 7 #[.pointer (some ⟨b, 0, none⟩), .int .u64 k] W fun e w' => e = .returned (.bool true) ∧ ∃ C' P' N', RemPost w0 D C W wd (d + 1) b k A B C' P' N' w' := by
  have hbD : b ∈ D := pre.idD b (ids_self _ _)
  have hat := h.at_ b hbD
  obtain ⟨⟨g, c, hch⟩, hxs, hkw, hszb, hfib, hkids⟩ := pre.wf
  obtain ⟨ks, hks⟩ : ∃ ks, ks = (C b).ks := ⟨_, rfl⟩
  obtain ⟨n, hn⟩ : ∃ n, n = ks.length := ⟨_, rfl⟩
  rw [← hks, ← hn] at hch
  rw [← hks] at hkids hkw hks0 hszb
  have hsrt : (ks.flatMap (elems C d)).Pairwise (· < ·) := by rw [hks]; exact pre.srt
  have hkD : ∀ x ∈ ks, x ∈ D := fun x hx => pre.idD x (by rw [hks] at hx; exact ids_kid hx (ids_self _ _))
  obtain ⟨hj, hpL, hpR⟩ := pick hkids hsrt hks0 k
  have hn2 : (C b).ks.length = n := by rw [hn, hks]
  have c17 := child17 b g n c (fun i => (C ks[i]!).fi) (fun i => ks[i]!) k W hat.row.lt (by rw [hat.row.cell (i := 2) (by omega), ← hch]; rfl) (by omega) (fun i hi => ⟨by rw [h.kidcell hbD hch hn2 hi, hks], h.ficell (hkD _ (by rw [getElem!_pos ks i (by omega)]; exact List.getElem_mem _))⟩) (fun i j hij hjn => kids_mono hkids hsrt i j hij (by omega))
  have hkc : ((List.range n).countP (fun i => !decide (k < (C ks[i]!).fi)) - 1 : Nat) = kidAt C ks k := by rw [hn]; rfl
  rw [hkc] at c17
  clear hkc
  obtain ⟨j, hjj⟩ : ∃ j, j = kidAt C ks k := ⟨_, rfl⟩
  rw [← hjj] at c17 hj hpL hpR
  obtain ⟨cj, hcj⟩ : ∃ cj, cj = ks[j]! := ⟨_, rfl⟩
  have hsp := split_at ks hj
  rw [← hcj] at hsp
  have hcjm : cj ∈ ks := by rw [hsp]; simp
  have hkj := h.kidcell hbD hch hn2 (i := j) (by omega)
  rw [← hks, ← hcj] at hkj
  have gl := World.block_lt_of_cell? W _ hkj
  have bl := hat.row.lt
  have hc2 : W.cell? ⟨b, 2, none⟩ = some (.slice (some ⟨g, 0, none⟩) n c) := by rw [hat.row.cell (i := 2) (by omega), ← hch]; rfl
  obtain ⟨pk, hbk, hdis⟩ := pre.kid (L := ks.take j) (R := ks.drop (j + 1)) (c := cj) (by rw [← hks]; exact hsp)
  have hek : (elems C d cj).length ≤ 1000 := by
    have h1 : elems C (d + 1) b = (ks.take j).flatMap (elems C d) ++ elems C d cj ++ (ks.drop (j + 1)).flatMap (elems C d) := by
      show (C b).ks.flatMap (elems C d) = _
      rw [← hks]
      conv => lhs; rw [hsp]
      simp
    rw [h1] at hlen
    simp only [List.length_append] at hlen
    omega
  have hEl : elems C (d + 1) b = (ks.take j).flatMap (elems C d) ++ elems C d cj ++ (ks.drop (j + 1)).flatMap (elems C d) := by
    show (C b).ks.flatMap (elems C d) = _
    rw [← hks]
    conv => lhs; rw [hsp]
    simp
  have hmm : k ∈ elems C (d + 1) b ↔ k ∈ elems C d cj := by rw [hEl]; exact mem_mid hpL hpR
  have hjn : j < n := by omega
  have q := q30
  have hcjD : cj ∈ D := hkD cj hcjm
  have hcjb : cj ≠ b := fun e => hbk (e ▸ ids_self d cj)
  have cIH := fun (w1 : World) (hb1 : Below W.heap.size W w1) => (IH D C P N w1 cj _ _ (h.below hb1).rep pk (hkids cj hcjm).2 hek)
  have HCH : Hid ((C b).ch = .slice (some ⟨g, 0, none⟩) n c) := hch
  have HN : Hid (n = ks.length) := hn
  have HKS : Hid (ks = (C b).ks) := hks
  have HSP : Hid (ks = ks.take j ++ cj :: ks.drop (j + 1)) := hsp
  have HEL : Hid _ := hEl
  have HPK : Hid _ := pk
  have HMM : Hid _ := hmm
  have HPL : Hid _ := hpL
  have HPR : Hid _ := hpR
  have HPRE : Hid _ := pre
  have HR : Hid _ := h
  have HXS : Hid _ := hxs
  have HSZ : Hid _ := hszb
  have HKD : Hid _ := hkD
  have HKIDS : Hid _ := hkids
  have HKW : Hid (ks.length ≤ wd) := hkw
  have HCJ : Hid _ := hcj
  have HLEN : Hid _ := hlen
  have HIH : Hid _ := IH
  have hnw : n ≤ 99 := by omega
  clear hch hn hks hsp hEl pk hmm hpL hpR pre h hxs hszb hkD hkids hkw hcj hlen hsrt hjj hn2 hat hfib hks0 hbk hdis hcjm IH hj hek
  have HkC := HMM.out.1 hk
  go_enter Yba.func7, Yba.ntmps7
  go_upto_region 18 with (go_at_call 17; refine c17.mono ?_; rintro e w1 ⟨rfl, hb1⟩)
  have d0 := (hb1.cell (p := ⟨b, 2, none⟩) bl).trans hc2
  have d1 := (hb1.cell (p := ⟨g, j, none⟩) gl).trans hkj
  have bl1 := Nat.lt_of_lt_of_le bl hb1.size
  have cc := cIH w1 hb1
  have HB1 : Hid _ := hb1
  clear hkj hc2 bl gl hb1 cIH q c17
  go_upto_region 20 with (go_at_call 7; refine cc.mono ?_; rintro e w2 hres; obtain ⟨_, rfl, C1, P1, N1, q1⟩ := Or.resolve_left hres (fun h => h.1 HkC))
  have R1 := q1.st.rep
  have hsame : C1 b = C b := q1.out b hbD (HPRE.out.kid (by rw [← HKS.out]; exact HSP.out)).2.1
  have hch1 : (C1 b).ch = .slice (some ⟨g, 0, none⟩) n c := by rw [hsame]; exact HCH.out
  have hks1 : (C1 b).ks = ks := by rw [hsame]; exact HKS.out.symm
  have y0 : w2.cell? ⟨b, 2, none⟩ = some (.slice (some ⟨g, 0, none⟩) n c) := by rw [(R1.at_ b hbD).row.cell (i := 2) (by omega), ← hch1]; rfl
  have y1 := R1.kidcell hbD hch1 (by rw [hks1]; exact HN.out.symm) hjn
  rw [hks1, ← HCJ.out] at y1
  have y2 : w2.cell? ⟨cj, 4, none⟩ = some (.int .i64 (C1 cj).sz) := (R1.at_ cj hcjD).row.cell (i := 4) (by omega)
  have hcs := q1.wf.size
  have bl2 := (R1.at_ b hbD).row.lt
  have L2 := R1.inner hbD
  generalize hBB : b :: (C1 b).ch.ownBlock.toList = BB at L2
  rw [hch1, hks1, ← HN.out] at L2
  clear hch1 hks1 cc d0 d1 bl1 R1 hsame
  by_cases hz : elems C1 d cj = []
  · rw [hcs, hz] at y2
    have y3 : w2.cell? ⟨cj, 4, none⟩ = some (.int .i64 0) := y2
    obtain ⟨ks', hks'⟩ : ∃ ks', ks' = ks.take j ++ (([] : List Nat) ++ ks.drop (j + 1)) := ⟨_, rfl⟩
    have kd := HPRE.out.kidsR (by rw [← HKS.out]; exact HSP.out) HPL.out HkC q1 (cs := []) (.inr ⟨rfl, hz⟩)
    rw [← hks'] at kd
    have HKDX : Hid _ := kd
    have HKS' : Hid _ := hks'
    clear hks' kd y2 hcs
    obtain ⟨last, hla⟩ : ∃ last, last + 1 = n := ⟨n - 1, by omega⟩
    have hwl : IntKind.i64.wrap ((n : Int) - 1) = (last : Int) := by rw [IntKind.wrap_i64]; omega
    have HLA : Hid (last + 1 = n) := hla
    have hlm : last < n := by omega
    clear hla
    go_upto_region 22 with fail
    refine q22 L2 (by omega) (by omega) (kids_one ks) ?_
    rintro _ _ _ _ _ _ _ _ _ _ _ _ _ _ w3 L3
    clear y0 y1 y3 bl2 hwl L2
    go_upto_region 23 with fail
    refine q23 L3 (by omega) (s := 0) (by omega) ?_
    rintro _ _ _ _ _ _ w4 L4
    clear L3
    go_upto_region 24 with fail
    refine q24 L4 (by omega) (Nat.le_of_lt hlm) ?_
    rintro _ _ _ _ _ _ _ _ _ w5 L5
    clear L4
    have hAl : (ks.map (fun k => ptrV (some k))).length = n := by rw [List.length_map]; exact HN.out.symm
    have eK : ((moved (ks.map (fun k => ptrV (some k))) j (j + 1) (n - (j + 1))).set last (.pointer none)).take last = ks'.map (fun k => ptrV (some k)) := by
      have h1 := moved_cut (ks.map (fun k => ptrV (some k))) j (by rw [hAl]; exact hjn)
      rw [hAl, show n - 1 = last by have := HLA.out; omega] at h1
      rw [List.take_set_of_le (Nat.le_refl _), h1, HKS'.out, List.nil_append, List.map_append, List.map_take, List.map_drop]
    rw [eK] at L5
    have kd := HKDX.out
    have hlk' : last = ks'.length := by
      rw [HKS'.out]
      simp only [List.nil_append, List.length_append, List.length_take, List.length_drop]
      have h1 := HN.out
      have h2 := HLA.out
      omega
    have hlwd : last ≤ wd := by have := HKW.out; have := HN.out; omega
    clear eK hAl
    have R1 := q1.st.rep
    have hsz1 : (C1 b).sz = ((elems C (d + 1) b).length : Int) := by rw [kd.same, HSZ.out, HKS.out]; rfl
    have hlen1 : 0 < (elems C (d + 1) b).length := List.length_pos_of_mem hk
    have hszb : 0 ≤ (C1 b).sz ∧ (C1 b).sz ≤ 100000 := by rw [hsz1]; have := HLEN.out; omega
    have hle : ((elems C (d + 1) b).erase k).length = (elems C (d + 1) b).length - 1 := List.length_erase_of_mem hk
    have hszF : (C1 b).sz - 1 = ((ks'.flatMap (elems C1 d)).length : Int) := by rw [kd.el, hle, hsz1]; omega
    have HKD1 : Hid _ := kd
    have HLK : Hid (last = ks'.length) := hlk'
    have HQ1 : Hid _ := q1
    have HBB : Hid (b :: (C1 b).ch.ownBlock.toList = BB) := hBB
    have HSF : Hid _ := hszF
    have HR1 : Hid _ := R1
    obtain ⟨sz1, hs1⟩ : ∃ sz1 : Int, sz1 = (C1 b).sz - 1 := ⟨_, rfl⟩
    have HS1 : Hid (sz1 = (C1 b).sz - 1) := hs1
    have hsp1 : 0 ≤ sz1 := by rw [hs1, hszF]; omega
    clear kd hlk' q1 hBB hsz1 hszF R1 hle hlen1
    go_upto_region 25 with fail
    refine q25 L5 hszb ?_
    rintro _ _ _ _ _ _ _ w6 L6
    rw [← hs1] at L6
    clear L5 hs1 hszb
    obtain ⟨e0, e1, e2, e3, e4, e5, e6⟩ := L6.facts
    by_cases h0 : 0 < sz1
    · have hdd : decide ((0 : Int) < sz1) = true := by simp; exact h0
      have hne : ks' ≠ [] := fun e => by
        have h1 := HSF.out
        rw [e] at h1
        rw [HS1.out, h1] at h0
        simp at h0
      have hlpos : 0 < last := by rw [HLK.out]; exact List.length_pos_iff.2 hne
      obtain ⟨k0, hk0⟩ : ∃ k0, ks'[0]? = some k0 := ⟨_, List.getElem?_eq_getElem (List.length_pos_iff.2 hne)⟩
      have kd := HKD1.out
      have hk0m : k0 ∈ ks' := List.mem_of_getElem? hk0
      have hk0D : k0 ∈ D := (kd.idm k0 (List.mem_flatMap.2 ⟨k0, hk0m, ids_self _ _⟩)).1
      have hk0b : k0 ≠ b := fun e => kd.bn k0 hk0m (e ▸ ids_self d k0)
      have L6b := L6
      rw [← HBB.out] at L6b
      have x0 : w6.cell? ⟨k0, 3, none⟩ = some (.int .u64 (C1 k0).fi) := (IW.far HR1.out hbD L6b hk0D hk0b).cell (i := 3) (by omega)
      have HK0 : Hid _ := hk0
      clear kd L6b hk0
      go_upto_region 27 with fail
      refine q27 L6 hlpos (by rw [List.getElem?_map, HK0.out]; rfl) x0 ?_
      rintro _ _ _ _ _ _ _ _ _ _ _ _ w7 L7
      go_wp2_with fail
      go_ret
      rw [← HBB.out] at L7
      have T7 := IW.done HR1.out hbD L7 HLK.out rfl
      rw [upd_id, upd_id] at T7
      have TA := ((HR.out.below HB1.out).trans HQ1.out.st).trans T7
      have key := closeR HKD1.out (ids_self _ _) HPRE.out.idD (r := ⟨(C1 b).nu, (C1 b).va, .slice (some ⟨g, 0, none⟩) last c, (C1 b).xs, ks', (C1 k0).fi, sz1⟩) rfl ⟨g, c, by rw [← HLK.out]⟩ (by show (C1 b).xs = []; rw [HKD1.out.same]; exact HXS.out) (by show ks'.length ≤ wd; rw [← HLK.out]; exact hlwd) (by show sz1 = _; rw [HS1.out]; exact HSF.out) (head_fi HKD1.out.wf HK0.out) TA
      exact ⟨rfl, _, P1, N1, key⟩
    · have hdd : decide ((0 : Int) < sz1) = false := by simp; omega
      go_wp2_with fail
      go_ret
      have L7 := L6
      rw [← HBB.out] at L7
      have T7 := IW.done HR1.out hbD L7 HLK.out rfl
      rw [upd_id, upd_id] at T7
      have TA := ((HR.out.below HB1.out).trans HQ1.out.st).trans T7
      have hemp : ks'.flatMap (elems C1 d) = [] := List.length_eq_zero_iff.1 (by have h1 := HSF.out; have h2 := HS1.out; omega)
      have key := closeR HKD1.out (ids_self _ _) HPRE.out.idD (r := ⟨(C1 b).nu, (C1 b).va, .slice (some ⟨g, 0, none⟩) last c, (C1 b).xs, ks', (C1 b).fi, sz1⟩) rfl ⟨g, c, by rw [← HLK.out]⟩ (by show (C1 b).xs = []; rw [HKD1.out.same]; exact HXS.out) (by show ks'.length ≤ wd; rw [← HLK.out]; exact hlwd) (by show sz1 = _; rw [HS1.out]; exact HSF.out) (fun x hx => by
        have hx' : (ks'.flatMap (elems C1 d)).head? = some x := hx
        rw [hemp] at hx'; cases hx') TA
      exact ⟨rfl, _, P1, N1, key⟩


  · have hpos : 0 < (elems C1 d cj).length := List.length_pos_iff.2 hz
    have hnz : ((C1 cj).sz == 0) = false := beq_eq_false_iff_ne.2 (by rw [hcs]; omega)
    generalize (C1 cj).sz = zz at y2 hnz
    obtain ⟨ks', hks'⟩ : ∃ ks', ks' = ks.take j ++ ([cj] ++ ks.drop (j + 1)) := ⟨_, rfl⟩
    have kd := HPRE.out.kidsR (by rw [← HKS.out]; exact HSP.out) HPL.out HkC q1 (cs := [cj]) (.inl ⟨rfl, hz⟩)
    rw [← hks'] at kd
    have eks : ks' = ks := by rw [hks']; exact HSP.out.symm
    have hlk' : n = ks'.length := by rw [eks]; exact HN.out
    have hlwd : n ≤ wd := by have := HKW.out; have := HN.out; omega
    have L5 := L2
    rw [← eks] at L5
    clear L2 hks' eks hcs hpos
    have R1 := q1.st.rep
    have hsz1 : (C1 b).sz = ((elems C (d + 1) b).length : Int) := by rw [kd.same, HSZ.out, HKS.out]; rfl
    have hlen1 : 0 < (elems C (d + 1) b).length := List.length_pos_of_mem hk
    have hszb : 0 ≤ (C1 b).sz ∧ (C1 b).sz ≤ 100000 := by rw [hsz1]; have := HLEN.out; omega
    have hle : ((elems C (d + 1) b).erase k).length = (elems C (d + 1) b).length - 1 := List.length_erase_of_mem hk
    have hszF : (C1 b).sz - 1 = ((ks'.flatMap (elems C1 d)).length : Int) := by rw [kd.el, hle, hsz1]; omega
    have HKD1 : Hid _ := kd
    have HLK : Hid (n = ks'.length) := hlk'
    have HQ1 : Hid _ := q1
    have HBB : Hid (b :: (C1 b).ch.ownBlock.toList = BB) := hBB
    have HSF : Hid _ := hszF
    have HR1 : Hid _ := R1
    obtain ⟨sz1, hs1⟩ : ∃ sz1 : Int, sz1 = (C1 b).sz - 1 := ⟨_, rfl⟩
    have HS1 : Hid (sz1 = (C1 b).sz - 1) := hs1
    have hsp1 : 0 ≤ sz1 := by rw [hs1, hszF]; omega
    clear kd hlk' q1 hBB hsz1 hszF R1 hle hlen1
    go_upto_region 25 with fail
    refine q25 L5 hszb ?_
    rintro _ _ _ _ _ _ _ w6 L6
    rw [← hs1] at L6
    clear L5 hs1 hszb
    obtain ⟨e0, e1, e2, e3, e4, e5, e6⟩ := L6.facts
    by_cases h0 : 0 < sz1
    · have hdd : decide ((0 : Int) < sz1) = true := by simp; exact h0
      have hne : ks' ≠ [] := fun e => by
        have h1 := HSF.out
        rw [e] at h1
        rw [HS1.out, h1] at h0
        simp at h0
      have hlpos : 0 < n := by rw [HLK.out]; exact List.length_pos_iff.2 hne
      obtain ⟨k0, hk0⟩ : ∃ k0, ks'[0]? = some k0 := ⟨_, List.getElem?_eq_getElem (List.length_pos_iff.2 hne)⟩
      have kd := HKD1.out
      have hk0m : k0 ∈ ks' := List.mem_of_getElem? hk0
      have hk0D : k0 ∈ D := (kd.idm k0 (List.mem_flatMap.2 ⟨k0, hk0m, ids_self _ _⟩)).1
      have hk0b : k0 ≠ b := fun e => kd.bn k0 hk0m (e ▸ ids_self d k0)
      have L6b := L6
      rw [← HBB.out] at L6b
      have x0 : w6.cell? ⟨k0, 3, none⟩ = some (.int .u64 (C1 k0).fi) := (IW.far HR1.out hbD L6b hk0D hk0b).cell (i := 3) (by omega)
      have HK0 : Hid _ := hk0
      clear kd L6b hk0
      go_upto_region 27 with fail
      refine q27 L6 hlpos (by rw [List.getElem?_map, HK0.out]; rfl) x0 ?_
      rintro _ _ _ _ _ _ _ _ _ _ _ _ w7 L7
      go_wp2_with fail
      go_ret
      rw [← HBB.out] at L7
      have T7 := IW.done HR1.out hbD L7 HLK.out rfl
      rw [upd_id, upd_id] at T7
      have TA := ((HR.out.below HB1.out).trans HQ1.out.st).trans T7
      have key := closeR HKD1.out (ids_self _ _) HPRE.out.idD (r := ⟨(C1 b).nu, (C1 b).va, .slice (some ⟨g, 0, none⟩) n c, (C1 b).xs, ks', (C1 k0).fi, sz1⟩) rfl ⟨g, c, by rw [← HLK.out]⟩ (by show (C1 b).xs = []; rw [HKD1.out.same]; exact HXS.out) (by show ks'.length ≤ wd; rw [← HLK.out]; exact hlwd) (by show sz1 = _; rw [HS1.out]; exact HSF.out) (head_fi HKD1.out.wf HK0.out) TA
      exact ⟨rfl, _, P1, N1, key⟩
    · have hdd : decide ((0 : Int) < sz1) = false := by simp; omega
      go_wp2_with fail
      go_ret
      have L7 := L6
      rw [← HBB.out] at L7
      have T7 := IW.done HR1.out hbD L7 HLK.out rfl
      rw [upd_id, upd_id] at T7
      have TA := ((HR.out.below HB1.out).trans HQ1.out.st).trans T7
      have hemp : ks'.flatMap (elems C1 d) = [] := List.length_eq_zero_iff.1 (by have h1 := HSF.out; have h2 := HS1.out; omega)
      have key := closeR HKD1.out (ids_self _ _) HPRE.out.idD (r := ⟨(C1 b).nu, (C1 b).va, .slice (some ⟨g, 0, none⟩) n c, (C1 b).xs, ks', (C1 b).fi, sz1⟩) rfl ⟨g, c, by rw [← HLK.out]⟩ (by show (C1 b).xs = []; rw [HKD1.out.same]; exact HXS.out) (by show ks'.length ≤ wd; rw [← HLK.out]; exact hlwd) (by show sz1 = _; rw [HS1.out]; exact HSF.out) (fun x hx => by
        have hx' : (ks'.flatMap (elems C1 d)).head? = some x := hx
        rw [hemp] at hx'; cases hx') TA
      exact ⟨rfl, _, P1, N1, key⟩



theorem rem7 (w0 : World) (wd : Nat) (hwd : 2 ≤ wd ∧ wd ≤ 99) (k : Int) : ∀ (d : Nat) (D : List Nat) (C : Nat → Nd) (P N : Nat → Option Nat) (W : World) (b : Nat) (A B : List Nat), Rep w0 D C P N W → Pre D C P N wd d b A B → (d = 0 ∨ elems C d b ≠ []) → (elems C d b).length ≤ 1000 →
    Calls Yba.prog 7 #[.pointer (some ⟨b, 0, none⟩), .int .u64 k] W (RemRes w0 D C P N W wd d b k A B)
  | 0, D, C, P, N, W, b, A, B, h, pre, _, _ => by
    by_cases hk : k ∈ (C b).xs
    · refine (rem_leaf_one w0 D C P N W wd b A B h pre hwd k hk).mono ?_
      rintro e w' ⟨rfl, q⟩
      exact .inr ⟨hk, rfl, q⟩
    · refine (rem_leaf_none w0 D C P N W wd b A B h pre hwd k hk).mono ?_
      rintro e w' ⟨rfl, st⟩
      exact .inl ⟨hk, rfl, st⟩
  | d + 1, D, C, P, N, W, b, A, B, h, pre, hne, hl => by
    have hne' := hne.resolve_left (by omega)
    have hks : (C b).ks ≠ [] := fun e => hne' (by simp [elems, e])
    have IH := fun (D : List Nat) (C : Nat → Nd) (P N : Nat → Option Nat) (W : World) (b : Nat) (A B : List Nat) (h : Rep w0 D C P N W) (pre : Pre D C P N wd d b A B) (hne : elems C d b ≠ []) (hl : (elems C d b).length ≤ 1000) => rem7 w0 wd hwd k d D C P N W b A B h pre (.inr hne) hl
    by_cases hk : k ∈ elems C (d + 1) b
    · refine (rem_inner_one w0 D C P N W wd d b A B h pre hwd k hks hl IH hk).mono ?_
      rintro e w' ⟨rfl, q⟩
      exact .inr ⟨hk, rfl, q⟩
    · refine (rem_inner_none w0 D C P N W wd d b A B h pre hwd k hks hl IH hk).mono ?_
      rintro e w' ⟨rfl, st⟩
      exact .inl ⟨hk, rfl, st⟩

end Go.Proofs.Ybulkbiy
