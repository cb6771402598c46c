import Derived.Test.YbulkbiyInsI
import Derived.Test.YbulkbiyRs
/-! insert (11) at an inner node: the walk. -/
namespace Go.Proofs.Ybulkbiy
attribute [local go_sem ↓] Go.wp_at_zero Go.wp_at_succ
open Go.RowKit Go.Maps Go.Sort

theorem len_flat {α β : Type} (f : α → List β) : ∀ {l : List α} {x : α}, x ∈ l → (f x).length ≤ (l.flatMap f).length
  | y :: l, x, h => by
    rw [List.flatMap_cons, List.length_append]
    rcases List.mem_cons.1 h with rfl | h
    · omega
    · have := len_flat f h; omega

theorem sumK_congr {C C' : Nat → Nd} {ks : List Nat} (h : ∀ x ∈ ks, C' x = C x) : sumK C' ks = sumK C ks := by
  unfold sumK
  congr 1
  exact List.map_congr_left (fun x hx => by rw [h x hx])

set_option maxHeartbeats 4000000 in
set_option maxRecDepth 100000 in
theorem ins_inner_old (w0 : World) (D : List Nat) (C : Nat → Nd) (P N : Nat → Option Nat) (W : World) (wd d b : Nat) (A B : List Nat) (h : Rep w0 D C P N W) (pre : Pre D C P N wd (d + 1) b A B) (hwd : 2 ≤ wd ∧ wd ≤ 99) (k : Int) (hks0 : (C b).ks ≠ []) (hlen : (elems C (d + 1) b).length ≤ 1000)
    (IH : ∀ (D : List Nat) (C : Nat → Nd) (P N : Nat → Option Nat) (W : World) (b : Nat) (A B : List Nat), Rep w0 D C P N W → Pre D C P N wd d b A B → elems C d b ≠ [] → (elems C d b).length ≤ 1000 → Calls Yba.prog 11 #[.pointer (some ⟨b, 0, none⟩), .int .u64 k, .int .u64 (vx k), .int .i64 (wd : Nat)] W (InsRes w0 D C P N W wd d b k A B)) (hk : k ∈ elems C (d + 1) b) :
    Calls Yba.prog 11 #[.pointer (some ⟨b, 0, none⟩), .int .u64 k, .int .u64 (vx k), .int .i64 (wd : Nat)] W fun e w' => e = .returned (.tuple #[.bool false, .pointer none]) ∧ St w0 D C W D C P N w' := by
  have hbD : b ∈ D := pre.idD b (ids_self _ _)
  have hat := h.at_ b hbD
  obtain ⟨⟨g, c, hch⟩, hxs, hkw, hszb, hfib, hkids⟩ := pre.wf
  obtain ⟨ks, hks⟩ : ∃ ks, ks = (C b).ks := ⟨_, rfl⟩
  obtain ⟨n, hn⟩ : ∃ n, n = ks.length := ⟨_, rfl⟩
  rw [← hks, ← hn] at hch
  rw [← hks] at hkids hkw hks0 hszb
  have hsrt : (ks.flatMap (elems C d)).Pairwise (· < ·) := by rw [hks]; exact pre.srt
  have hkD : ∀ x ∈ ks, x ∈ D := fun x hx => pre.idD x (by rw [hks] at hx; exact ids_kid hx (ids_self _ _))
  obtain ⟨hj, hpL, hpR⟩ := pick hkids hsrt hks0 k
  have hn2 : (C b).ks.length = n := by rw [hn, hks]
  have c17 := child17 b g n c (fun i => (C ks[i]!).fi) (fun i => ks[i]!) k W hat.row.lt (by rw [hat.row.cell (i := 2) (by omega), ← hch]; rfl) (by omega) (fun i hi => ⟨by rw [h.kidcell hbD hch hn2 hi, hks], h.ficell (hkD _ (by rw [getElem!_pos ks i (by omega)]; exact List.getElem_mem _))⟩) (fun i j hij hjn => kids_mono hkids hsrt i j hij (by omega))
  have hkc : ((List.range n).countP (fun i => !decide (k < (C ks[i]!).fi)) - 1 : Nat) = kidAt C ks k := by rw [hn]; rfl
  rw [hkc] at c17
  clear hkc
  obtain ⟨j, hjj⟩ : ∃ j, j = kidAt C ks k := ⟨_, rfl⟩
  rw [← hjj] at c17 hj hpL hpR
  obtain ⟨cj, hcj⟩ : ∃ cj, cj = ks[j]! := ⟨_, rfl⟩
  have hsp := split_at ks hj
  rw [← hcj] at hsp
  have hcjm : cj ∈ ks := by rw [hsp]; simp
  have hkj := h.kidcell hbD hch hn2 (i := j) (by omega)
  rw [← hks, ← hcj] at hkj
  have gl := World.block_lt_of_cell? W _ hkj
  have bl := hat.row.lt
  have hc2 : W.cell? ⟨b, 2, none⟩ = some (.slice (some ⟨g, 0, none⟩) n c) := by rw [hat.row.cell (i := 2) (by omega), ← hch]; rfl
  obtain ⟨pk, hbk, hdis⟩ := pre.kid (L := ks.take j) (R := ks.drop (j + 1)) (c := cj) (by rw [← hks]; exact hsp)
  have hek : (elems C d cj).length ≤ 1000 := by
    have h1 : elems C (d + 1) b = (ks.take j).flatMap (elems C d) ++ elems C d cj ++ (ks.drop (j + 1)).flatMap (elems C d) := by
      show (C b).ks.flatMap (elems C d) = _
      rw [← hks]
      conv => lhs; rw [hsp]
      simp
    rw [h1] at hlen
    simp only [List.length_append] at hlen
    omega
  have hEl : elems C (d + 1) b = (ks.take j).flatMap (elems C d) ++ elems C d cj ++ (ks.drop (j + 1)).flatMap (elems C d) := by
    show (C b).ks.flatMap (elems C d) = _
    rw [← hks]
    conv => lhs; rw [hsp]
    simp
  have hmm : k ∈ elems C (d + 1) b ↔ k ∈ elems C d cj := by rw [hEl]; exact mem_mid hpL hpR
  have hjn : j < n := by omega
  have q := q30
  have cIH := fun (w1 : World) (hb1 : Below W.heap.size W w1) => (IH D C P N w1 cj _ _ (h.below hb1).rep pk (hkids cj hcjm).2 hek)
  have HCH : Hid ((C b).ch = .slice (some ⟨g, 0, none⟩) n c) := hch
  have HN : Hid (n = ks.length) := hn
  have HKS : Hid (ks = (C b).ks) := hks
  have HSP : Hid (ks = ks.take j ++ cj :: ks.drop (j + 1)) := hsp
  have HEL : Hid _ := hEl
  have HPK : Hid _ := pk
  have HMM : Hid _ := hmm
  have HPL : Hid _ := hpL
  have HPR : Hid _ := hpR
  have HPRE : Hid _ := pre
  have HR : Hid _ := h
  have HXS : Hid _ := hxs
  have HSZ : Hid _ := hszb
  have HKD : Hid _ := hkD
  have HKIDS : Hid _ := hkids
  have HKW : Hid (ks.length ≤ wd) := hkw
  have HCJ : Hid _ := hcj
  have HLEN : Hid _ := hlen
  have HIH : Hid _ := IH
  have hnw : n ≤ 99 := by omega
  clear hch hn hks hsp hEl pk hmm hpL hpR pre h hxs hszb hkD hkids hkw hcj hlen hsrt hjj hn2 hat hfib hks0 hbk hdis hcjm IH hj hek
  have HkC := HMM.out.1 hk
  go_enter Yba.func11, Yba.ntmps11
  go_upto_region 23 with (go_at_call 17; refine c17.mono ?_; rintro e w1 ⟨rfl, hb1⟩)
  have d0 := (hb1.cell (p := ⟨b, 2, none⟩) bl).trans hc2
  have d1 := (hb1.cell (p := ⟨g, j, none⟩) gl).trans hkj
  have bl1 := Nat.lt_of_lt_of_le bl hb1.size
  have cc := cIH w1 hb1
  have HB1 : Hid _ := hb1
  clear hkj hc2 bl gl hb1 cIH q c17
  go_wp2_with (go_at_call 11; refine cc.mono ?_; rintro e w2 hres; obtain ⟨_, rfl, T2⟩ := Or.resolve_right hres (fun h => h.1 HkC))
  go_ret2
  exact ⟨rfl, (HR.out.below HB1.out).trans T2⟩

set_option maxHeartbeats 8000000 in
set_option maxRecDepth 100000 in
theorem ins_inner_new (w0 : World) (D : List Nat) (C : Nat → Nd) (P N : Nat → Option Nat) (W : World) (wd d b : Nat) (A B : List Nat) (h : Rep w0 D C P N W) (pre : Pre D C P N wd (d + 1) b A B) (hwd : 2 ≤ wd ∧ wd ≤ 99) (k : Int) (hks0 : (C b).ks ≠ []) (hlen : (elems C (d + 1) b).length ≤ 1000)
    (IH : ∀ (D : List Nat) (C : Nat → Nd) (P N : Nat → Option Nat) (W : World) (b : Nat) (A B : List Nat), Rep w0 D C P N W → Pre D C P N wd d b A B → elems C d b ≠ [] → (elems C d b).length ≤ 1000 → Calls Yba.prog 11 #[.pointer (some ⟨b, 0, none⟩), .int .u64 k, .int .u64 (vx k), .int .i64 (wd : Nat)] W (InsRes w0 D C P N W wd d b k A B)) (hk : k ∉ elems C (d + 1) b) :
    Calls Yba.prog 11 #[.pointer (some ⟨b, 0, none⟩), .int .u64 k, .int .u64 (vx k), .int .i64 (wd : Nat)] W fun e w' => ∃ up D' C' P' N', e = .returned (.tuple #[.bool true, ptrV up]) ∧ InsPost w0 D C W wd (d + 1) b k A B up D' C' P' N' w' := by
  have hbD : b ∈ D := pre.idD b (ids_self _ _)
  have hat := h.at_ b hbD
  obtain ⟨⟨g, c, hch⟩, hxs, hkw, hszb, hfib, hkids⟩ := pre.wf
  obtain ⟨ks, hks⟩ : ∃ ks, ks = (C b).ks := ⟨_, rfl⟩
  obtain ⟨n, hn⟩ : ∃ n, n = ks.length := ⟨_, rfl⟩
  rw [← hks, ← hn] at hch
  rw [← hks] at hkids hkw hks0 hszb
  have hsrt : (ks.flatMap (elems C d)).Pairwise (· < ·) := by rw [hks]; exact pre.srt
  have hkD : ∀ x ∈ ks, x ∈ D := fun x hx => pre.idD x (by rw [hks] at hx; exact ids_kid hx (ids_self _ _))
  obtain ⟨hj, hpL, hpR⟩ := pick hkids hsrt hks0 k
  have hn2 : (C b).ks.length = n := by rw [hn, hks]
  have c17 := child17 b g n c (fun i => (C ks[i]!).fi) (fun i => ks[i]!) k W hat.row.lt (by rw [hat.row.cell (i := 2) (by omega), ← hch]; rfl) (by omega) (fun i hi => ⟨by rw [h.kidcell hbD hch hn2 hi, hks], h.ficell (hkD _ (by rw [getElem!_pos ks i (by omega)]; exact List.getElem_mem _))⟩) (fun i j hij hjn => kids_mono hkids hsrt i j hij (by omega))
  have hkc : ((List.range n).countP (fun i => !decide (k < (C ks[i]!).fi)) - 1 : Nat) = kidAt C ks k := by rw [hn]; rfl
  rw [hkc] at c17
  clear hkc
  obtain ⟨j, hjj⟩ : ∃ j, j = kidAt C ks k := ⟨_, rfl⟩
  rw [← hjj] at c17 hj hpL hpR
  obtain ⟨cj, hcj⟩ : ∃ cj, cj = ks[j]! := ⟨_, rfl⟩
  have hsp := split_at ks hj
  rw [← hcj] at hsp
  have hcjm : cj ∈ ks := by rw [hsp]; simp
  have hkj := h.kidcell hbD hch hn2 (i := j) (by omega)
  rw [← hks, ← hcj] at hkj
  have gl := World.block_lt_of_cell? W _ hkj
  have bl := hat.row.lt
  have hc2 : W.cell? ⟨b, 2, none⟩ = some (.slice (some ⟨g, 0, none⟩) n c) := by rw [hat.row.cell (i := 2) (by omega), ← hch]; rfl
  obtain ⟨pk, hbk, hdis⟩ := pre.kid (L := ks.take j) (R := ks.drop (j + 1)) (c := cj) (by rw [← hks]; exact hsp)
  have hek : (elems C d cj).length ≤ 1000 := by
    have h1 : elems C (d + 1) b = (ks.take j).flatMap (elems C d) ++ elems C d cj ++ (ks.drop (j + 1)).flatMap (elems C d) := by
      show (C b).ks.flatMap (elems C d) = _
      rw [← hks]
      conv => lhs; rw [hsp]
      simp
    rw [h1] at hlen
    simp only [List.length_append] at hlen
    omega
  have hEl : elems C (d + 1) b = (ks.take j).flatMap (elems C d) ++ elems C d cj ++ (ks.drop (j + 1)).flatMap (elems C d) := by
    show (C b).ks.flatMap (elems C d) = _
    rw [← hks]
    conv => lhs; rw [hsp]
    simp
  have hmm : k ∈ elems C (d + 1) b ↔ k ∈ elems C d cj := by rw [hEl]; exact mem_mid hpL hpR
  have hjn : j < n := by omega
  have q := q30
  have cIH := fun (w1 : World) (hb1 : Below W.heap.size W w1) => (IH D C P N w1 cj _ _ (h.below hb1).rep pk (hkids cj hcjm).2 hek)
  have HCH : Hid ((C b).ch = .slice (some ⟨g, 0, none⟩) n c) := hch
  have HN : Hid (n = ks.length) := hn
  have HKS : Hid (ks = (C b).ks) := hks
  have HSP : Hid (ks = ks.take j ++ cj :: ks.drop (j + 1)) := hsp
  have HEL : Hid _ := hEl
  have HPK : Hid _ := pk
  have HMM : Hid _ := hmm
  have HPL : Hid _ := hpL
  have HPR : Hid _ := hpR
  have HPRE : Hid _ := pre
  have HR : Hid _ := h
  have HXS : Hid _ := hxs
  have HSZ : Hid _ := hszb
  have HKD : Hid _ := hkD
  have HKIDS : Hid _ := hkids
  have HKW : Hid (ks.length ≤ wd) := hkw
  have HCJ : Hid _ := hcj
  have HLEN : Hid _ := hlen
  have HIH : Hid _ := IH
  have hnw : n ≤ 99 := by omega
  clear hch hn hks hsp hEl pk hmm hpL hpR pre h hxs hszb hkD hkids hkw hcj hlen hsrt hjj hn2 hat hfib hks0 hbk hdis hcjm IH hj hek
  have HkC := fun hx => hk (HMM.out.2 hx)
  go_enter Yba.func11, Yba.ntmps11
  go_upto_region 23 with (go_at_call 17; refine c17.mono ?_; rintro e w1 ⟨rfl, hb1⟩)
  have d0 := (hb1.cell (p := ⟨b, 2, none⟩) bl).trans hc2
  have d1 := (hb1.cell (p := ⟨g, j, none⟩) gl).trans hkj
  have bl1 := Nat.lt_of_lt_of_le bl hb1.size
  have cc := cIH w1 hb1
  have HB1 : Hid _ := hb1
  clear hkj hc2 bl gl hb1 cIH q c17
  go_upto_region 24 with (go_at_call 11; refine cc.mono ?_; rintro e w2 hres; obtain ⟨_, up, D1, C1, P1, N1, rfl, q1⟩ := Or.resolve_left hres (fun h => HkC h.1))
  have kd := HPRE.out.kids (by rw [← HKS.out]; exact HSP.out) HPL.out HPR.out q1
  have R1 := q1.rep
  have L2 := R1.inner kd.bD
  generalize hBB : b :: (C1 b).ch.ownBlock.toList = BB at L2
  have hch1 : (C1 b).ch = .slice (some ⟨g, 0, none⟩) n c := by rw [kd.same]; exact HCH.out
  have hks1 : (C1 b).ks = ks := by rw [kd.same]; exact HKS.out.symm
  rw [hch1, hks1, ← HN.out] at L2
  clear hch1 hks1 cc d0 d1 bl1
  cases up with
  | none =>
    simp only [ptrV]
    obtain ⟨ks', hks'⟩ : ∃ ks', ks' = ks.take j ++ cj :: ((none : Option Nat).toList ++ ks.drop (j + 1)) := ⟨_, rfl⟩
    rw [← hks'] at kd
    have eks : ks' = ks := by rw [hks']; exact HSP.out.symm
    have hlk' : n = ks'.length := by rw [eks]; exact HN.out
    have hlu : ks'.length ≤ 100 ∧ 0 < ks'.length := by rw [← hlk']; omega
    have hlwd : n ≤ wd + 1 := by have := HKW.out; have := HN.out; omega
    have L5 := L2
    rw [← eks] at L5
    clear L2 hks' eks
    have hbD1 := kd.bD
    have hlw : n ≤ 100 ∧ 0 < n := by rw [hlk']; exact hlu
    obtain ⟨k0, hk0⟩ : ∃ k0, ks'[0]? = some k0 := ⟨_, List.getElem?_eq_getElem (by rw [← hlk']; exact hlw.2)⟩
    have hk0m : k0 ∈ ks' := List.mem_of_getElem? hk0
    have hk0D : k0 ∈ D1 := (kd.idm k0 (List.mem_flatMap.2 ⟨k0, hk0m, ids_self _ _⟩)).1
    have hk0b : k0 ≠ b := fun e => kd.bn k0 hk0m (e ▸ ids_self d k0)
    have x0 : w2.cell? ⟨k0, 3, none⟩ = some (.int .u64 (C1 k0).fi) := (IW.far R1 hbD1 (hBB ▸ L5) hk0D hk0b).cell (i := 3) (by omega)
    have hsz1 : (C1 b).sz = ((elems C (d + 1) b).length : Int) := by rw [kd.same, HSZ.out, HKS.out]; rfl
    have HSZ1 : Hid _ := hsz1
    have hszb : 0 ≤ (C1 b).sz ∧ (C1 b).sz ≤ 100000 := by rw [hsz1]; have := HLEN.out; omega
    have HKD1 : Hid _ := kd
    have HLK : Hid (n = ks'.length) := hlk'
    have HK0 : Hid (ks'[0]? = some k0) := hk0
    have HR1 : Hid _ := R1
    have HQ1 : Hid _ := q1
    have HBB : Hid (b :: (C1 b).ch.ownBlock.toList = BB) := hBB
    clear kd hlk' hlu hk0 R1 q1 hBB hsz1
    go_upto_region 30 with fail
    refine r30 L5 hlw.2 (by rw [List.getElem?_map, HK0.out]; rfl) x0 hszb ?_
    rintro _ _ _ _ _ _ _ _ _ _ _ _ _ _ _ _ _ _ _ _ w6 L6
    clear L5 x0
    have L6b := L6
    rw [← HBB.out] at L6b
    have T6 := IW.done HR1.out hbD1 L6b HLK.out rfl
    rw [upd_id, upd_id] at T6
    obtain ⟨e0, e1, e2, e3, e4, e5, e6⟩ := L6.facts
    have TA := ((HR.out.below HB1.out).trans ⟨HQ1.out.rep, HQ1.out.keeps, HQ1.out.grows⟩).trans T6
    have kd := HKD1.out
    have hl1 : (insK k (elems C (d + 1) b)).length = (elems C (d + 1) b).length + 1 := insK_len _ _
    have hszF : (C1 b).sz + 1 = ((ks'.flatMap (elems C1 d)).length : Int) := by rw [kd.el, hl1, HSZ1.out]; omega
    have HTA : Hid _ := TA
    have HT6 : Hid _ := T6
    have HSF : Hid _ := hszF
    clear kd hl1 hszF TA T6 L6 L6b
    by_cases hsp : wd < n
    · have hdd : decide ((wd : Int) < (n : Int)) = true := by simp; exact hsp
      have hq2 : Int.tdiv (n : Int) 2 = ((n / 2 : Nat) : Int) := by rw [Int.tdiv_eq_ediv_of_nonneg (by omega)]; omega
      obtain ⟨h, hh⟩ : ∃ h, h = n / 2 := ⟨_, rfl⟩
      rw [← hh] at hq2
      have hwq : IntKind.i64.wrap (h : Int) = (h : Int) := by rw [IntKind.wrap_i64]; omega
      have hb1 : h < n ∧ 0 < h ∧ n ≤ wd + 1 := ⟨by omega, by omega, hlwd⟩
      have HH : Hid (h = n / 2) := hh
      clear hh
      go_upto_region 33 with fail
      obtain ⟨C6, hC6⟩ : ∃ C6, C6 = upd C1 b ⟨(C1 b).nu, (C1 b).va, .slice (some ⟨g, 0, none⟩) n c, (C1 b).xs, ks', (C1 k0).fi, (C1 b).sz + 1⟩ := ⟨_, rfl⟩
      have T6 := HT6.out
      rw [← hC6] at T6
      have c6b : C6 b = ⟨(C1 b).nu, (C1 b).va, .slice (some ⟨g, 0, none⟩) n c, (C1 b).xs, ks', (C1 k0).fi, (C1 b).sz + 1⟩ := by rw [hC6, upd_same]
      have c6x : ∀ x, x ≠ b → C6 x = C1 x := fun x hx => by rw [hC6, upd_other _ _ hx]
      have TA := HTA.out
      rw [← hC6] at TA
      clear hC6 HT6 HTA hdd hq2 hwq
      refine r33 T6.rep hbD1 (by rw [c6b]) (by rw [c6b]; exact HLK.out.symm) (by omega) hb1.1 ?_
      rintro _ _ _ _ _ _ _ _ _ v9 w7 ⟨u, chU, rfl, huw, T7⟩
      have huD : u ∉ D1 := fun hu => by have := node_blk T6.rep hu; omega
      have hub : b ≠ u := fun e => huD (e ▸ hbD1)
      rw [show (C6 b).ks = ks' by rw [c6b]] at T7
      obtain ⟨C7, hC7⟩ : ∃ C7, C7 = upd C6 u ⟨.slice none 0 0, .slice none 0 0, chU, [], ks'.drop h, 0, 0⟩ := ⟨_, rfl⟩
      rw [← hC7] at T7
      have c7u : C7 u = ⟨.slice none 0 0, .slice none 0 0, chU, [], ks'.drop h, 0, 0⟩ := by rw [hC7, upd_same]
      have c7b : C7 b = C6 b := by rw [hC7, upd_other _ _ hub]
      have c7x : ∀ x, x ≠ b → x ≠ u → C7 x = C1 x := fun x hx hx2 => by rw [hC7, upd_other _ _ hx2, c6x x hx]
      clear hC7
      have hbD7 : b ∈ u :: D1 := List.mem_cons_of_mem _ hbD1
      have hdl : (ks'.drop h).length = n - h := by rw [List.length_drop, ← HLK.out]
      have htl : (ks'.take h).length = h := by rw [List.length_take, ← HLK.out]; omega
      have chf := own_some (T7.rep.at_ u (by simp)).kids (by rw [c7u]; show 0 < (ks'.drop h).length; omega)
      rw [c7u] at chf
      have HCHF : Hid _ := chf
      clear chf
      have L7 := T7.rep.inner hbD7
      generalize hB7 : b :: (C7 b).ch.ownBlock.toList = B7 at L7
      rw [show (C7 b).ch = .slice (some ⟨g, 0, none⟩) n c by rw [c7b, c6b], show (C7 b).ks = ks' by rw [c7b, c6b], ← HLK.out] at L7
      have HB7 : Hid (b :: (C7 b).ch.ownBlock.toList = B7) := hB7
      clear hB7
      go_upto_region 34 with fail
      refine r34 L7 (by omega) hb1.1 ?_
      rintro _ _ _ _ _ _ w8 ⟨ys, L8, hys⟩
      go_upto_region 35 with fail
      refine r35 L8 (by omega) (Nat.le_of_lt hb1.1) ?_
      rintro _ _ _ _ _ _ _ _ _ w9 L9
      rw [← HB7.out] at L9
      have T9 := IW.done T7.rep hbD7 L9 (ks := ks'.take h) htl.symm (by rw [hys, List.map_take])
      rw [upd_id, upd_id] at T9
      clear L7 L8 L9
      obtain ⟨C9, hC9⟩ : ∃ C9, C9 = upd C7 b ⟨(C7 b).nu, (C7 b).va, .slice (some ⟨g, 0, none⟩) h c, (C7 b).xs, ks'.take h, (C7 b).fi, (C7 b).sz⟩ := ⟨_, rfl⟩
      rw [← hC9] at T9
      have c9b : C9 b = ⟨(C7 b).nu, (C7 b).va, .slice (some ⟨g, 0, none⟩) h c, (C7 b).xs, ks'.take h, (C7 b).fi, (C7 b).sz⟩ := by rw [hC9, upd_same]
      have c9u : C9 u = C7 u := by rw [hC9, upd_other _ _ (fun e => hub e.symm)]
      have c9x : ∀ x, x ≠ b → x ≠ u → C9 x = C1 x := fun x hx hx2 => by rw [hC9, upd_other _ _ hx, c7x x hx hx2]
      clear hC9
      have kd := HKD1.out
      have hkx : ∀ x ∈ ks', x ∈ D1 ∧ x ≠ b ∧ x ≠ u ∧ 0 ≤ (C1 x).sz ∧ (C1 x).sz ≤ 100000 := fun x hx => by
        have hxD := (kd.idm x (List.mem_flatMap.2 ⟨x, hx, ids_self _ _⟩)).1
        refine ⟨hxD, fun e => kd.bn x hx (e ▸ ids_self d x), fun e => huD (e ▸ hxD), ?_⟩
        rw [(kd.wf x hx).1.size]
        have h1 := len_flat (elems C1 d) hx
        rw [kd.el, insK_len] at h1
        have := HLEN.out
        omega
      have hkx9 : ∀ x ∈ ks', C9 x = C1 x := fun x hx => c9x x (hkx x hx).2.1 (hkx x hx).2.2.1
      obtain ⟨ku, hku⟩ : ∃ ku, (ks'.drop h)[0]? = some ku := ⟨_, List.getElem?_eq_getElem (by omega)⟩
      have hkb : (ks'.take h)[0]? = some k0 := by rw [List.getElem?_take_of_lt (by omega)]; exact HK0.out
      have e9u : (C9 u).ks = ks'.drop h := by rw [c9u, c7u]
      have cR1 := resum12 w0 (u :: D1) C9 _ _ w9 u T9.rep (by simp) (fun x hx => by
        rw [e9u] at hx
        have hx' := List.mem_of_mem_drop hx
        obtain ⟨a1, a2, a3, a4⟩ := hkx x hx'
        rw [hkx9 x hx']
        exact ⟨List.mem_cons_of_mem _ a1, a3, a4⟩) ku (by rw [e9u]; exact hku) (by rw [e9u, hdl]; omega)
      have HT9 : Hid _ := T9
      have HTB : Hid _ := (TA.trans T7).trans T9
      have HC9B : Hid _ := c9b
      have HE9U : Hid _ := e9u
      have HC9U : Hid _ := c9u
      have HC7U : Hid _ := c7u
      have HC7B : Hid _ := c7b
      have HC6B : Hid _ := c6b
      have HKX : Hid _ := hkx
      have HKX9 : Hid _ := hkx9
      have HKU : Hid _ := hku
      have HKB : Hid _ := hkb
      have HTL : Hid _ := htl
      have HDL : Hid _ := hdl
      have HC9X : Hid _ := c9x
      clear T6 TA T7 T9 c6b c7u c7b c9b c9u e9u hkx hkx9 hku hkb htl hdl kd c6x c7x c9x hys
      go_upto_region 37 with (go_at_call 12; refine cR1.mono ?_; rintro e w10 ⟨rfl, RB1⟩)
      have T10 := RowB.done HT9.out.rep (by simp) RB1
      obtain ⟨C10, hC10⟩ : ∃ C10, C10 = upd C9 u { C9 u with fi := (C9 ku).fi, sz := sumK C9 (C9 u).ks } := ⟨_, rfl⟩
      rw [← hC10] at T10
      have c10u : C10 u = { C9 u with fi := (C9 ku).fi, sz := sumK C9 (C9 u).ks } := by rw [hC10, upd_same]
      have c10b : C10 b = C9 b := by rw [hC10, upd_other _ _ hub]
      have c10x : ∀ x, x ≠ b → x ≠ u → C10 x = C1 x := fun x hx hx2 => by rw [hC10, upd_other _ _ hx2, HC9X.out x hx hx2]
      have e10b : (C10 b).ks = ks'.take h := by rw [c10b, HC9B.out]
      have hkx10 : ∀ x ∈ ks', C10 x = C1 x := fun x hx => c10x x (HKX.out x hx).2.1 (HKX.out x hx).2.2.1
      clear hC10
      have cR2 := resum12 w0 (u :: D1) C10 _ _ w10 b T10.rep hbD7 (fun x hx => by
        rw [e10b] at hx
        have hx' := List.mem_of_mem_take hx
        obtain ⟨a1, a2, a3, a4⟩ := HKX.out x hx'
        rw [hkx10 x hx']
        exact ⟨List.mem_cons_of_mem _ a1, a2, a4⟩) k0 (by rw [e10b]; exact HKB.out) (by rw [e10b, HTL.out]; omega)
      have HT10 : Hid _ := T10
      have HC10U : Hid _ := c10u
      have HC10B : Hid _ := c10b
      have HC10X : Hid _ := c10x
      have HE10B : Hid _ := e10b
      have HKX10 : Hid _ := hkx10
      clear T10 c10u c10b c10x e10b hkx10 RB1 cR1
      go_wp2_with (go_at_call 12; refine cR2.mono ?_; rintro e w11 ⟨rfl, RB2⟩)
      go_ret2
      have T11 := RowB.done HT10.out.rep hbD7 RB2
      have eC : upd C10 b { C10 b with fi := (C10 k0).fi, sz := sumK C10 (C10 b).ks } = upd (upd C1 b { C10 b with fi := (C10 k0).fi, sz := sumK C10 (C10 b).ks }) u (C10 u) := by
        funext x
        by_cases x1 : x = b
        · subst x1; rw [upd_same, upd_other _ _ hub, upd_same]
        · by_cases x2 : x = u
          · subst x2; rw [upd_other _ _ x1, upd_same]
          · rw [upd_other _ _ x1, upd_other _ _ x2, upd_other _ _ x1, HC10X.out x x1 x2]
      have TF := (HTB.out.trans HT10.out).trans T11
      rw [eC] at TF
      have kd := HKD1.out
      have hxs1 : (C1 b).xs = [] := by rw [kd.same]; exact HXS.out
      have m1 : ∀ x ∈ ks'.take h, x ∈ ks' := fun x hx => List.mem_of_mem_take hx
      have m2 : ∀ x ∈ ks'.drop h, x ∈ ks' := fun x hx => List.mem_of_mem_drop hx
      have u2 : (C10 u).ks = ks'.drop h := by rw [HC10U.out]; exact HE9U.out
      have key := close1 kd (ids_self _ _) (fun x hx => (HPRE.out.ab x hx).1) huD (r1 := { C10 b with fi := (C10 k0).fi, sz := sumK C10 (C10 b).ks }) (r2 := C10 u)
        (by show (C10 b).ks ++ (C10 u).ks = ks'; rw [HE10B.out, u2, List.take_append_drop])
        (fun e => by have e2 : (C10 b).ks = [] := e; rw [HE10B.out] at e2; have := HTL.out; rw [e2] at this; simp at this; omega)
        (fun e => by rw [u2] at e; have := HDL.out; rw [e] at this; simp at this; omega)
        ⟨g, c, by show (C10 b).ch = .slice _ (C10 b).ks.length _; rw [HE10B.out, HTL.out, HC10B.out, HC9B.out]⟩
        (by show (C10 b).xs = []; rw [HC10B.out, HC9B.out]; show (C7 b).xs = []; rw [HC7B.out, HC6B.out]; exact hxs1)
        (by show (C10 b).ks.length ≤ wd; rw [HE10B.out, HTL.out]; omega)
        (by show sumK C10 (C10 b).ks = (((C10 b).ks.flatMap (elems C1 d)).length : Int); rw [HE10B.out, sumK_congr (fun x hx => HKX10.out x (m1 x hx))]; exact sum_len (fun x hx => kd.wf x (m1 x hx)))
        (fun x hx => by
          have hx' : ((C10 b).ks.flatMap (elems C1 d)).head? = some x := hx
          rw [HE10B.out] at hx'
          show (C10 k0).fi = x
          rw [HKX10.out k0 (m1 k0 (List.mem_of_getElem? HKB.out))]
          exact head_fi (fun y hy => kd.wf y (m1 y hy)) HKB.out x hx')
        (by obtain ⟨gu, cu, e⟩ := HCHF.out; exact ⟨gu, cu, by rw [u2, HC10U.out]; show (C9 u).ch = _; rw [HC9U.out, HC7U.out]; exact e⟩)
        (by rw [HC10U.out]; show (C9 u).xs = []; rw [HC9U.out, HC7U.out])
        (by rw [u2, HDL.out]; have := HH.out; omega)
        (by rw [u2, HC10U.out]; show sumK C9 (C9 u).ks = _; rw [HE9U.out, sumK_congr (fun x hx => HKX9.out x (m2 x hx))]; exact sum_len (fun x hx => kd.wf x (m2 x hx)))
        (fun x hx => by
          rw [u2] at hx
          rw [HC10U.out]
          show (C9 ku).fi = x
          rw [HKX9.out ku (m2 ku (List.mem_of_getElem? HKU.out))]
          exact head_fi (fun y hy => kd.wf y (m2 y hy)) HKU.out x hx)
        (P2 := upd P1 u none) (N2 := upd N1 u none) (fun x hx => ⟨upd_other _ _ (fun (e : x = u) => huD (e ▸ hx)), upd_other _ _ (fun (e : x = u) => huD (e ▸ hx))⟩) TF
      first | exact ⟨some u, rfl, u :: D1, _, _, _, key⟩ | exact ⟨some u, u :: D1, _, _, _, rfl, key⟩
    · have hdd : decide ((wd : Int) < (n : Int)) = false := by simp; omega
      go_wp2_with fail
      go_ret2
      have key := close0 HKD1.out (ids_self _ _) (r := ⟨(C1 b).nu, (C1 b).va, .slice (some ⟨g, 0, none⟩) n c, (C1 b).xs, ks', (C1 k0).fi, (C1 b).sz + 1⟩) rfl ⟨g, c, by rw [← HLK.out]⟩ (by show (C1 b).xs = []; rw [HKD1.out.same]; exact HXS.out) (by show ks'.length ≤ wd; rw [← HLK.out]; omega) HSF.out (head_fi HKD1.out.wf HK0.out) HTA.out
      first | exact ⟨none, rfl, D1, _, P1, N1, key⟩ | exact ⟨none, D1, _, P1, N1, rfl, key⟩


  | some s =>
    simp only [ptrV]
    obtain ⟨ks', hks'⟩ : ∃ ks', ks' = ks.take j ++ cj :: ((some s : Option Nat).toList ++ ks.drop (j + 1)) := ⟨_, rfl⟩
    rw [← hks'] at kd
    have HKS' : Hid _ := hks'
    have HKDX : Hid _ := kd
    clear hks' kd
    go_upto_region 27 with fail
    refine r27 L2 (by omega) ?_
    rintro _ _ _ _ _ _ _ _ _ w3 ⟨ch3, L3⟩
    clear L2
    obtain ⟨l, hlm⟩ : ∃ l, l = n + 1 := ⟨_, rfl⟩
    rw [← hlm] at L3
    have hl2 : l ≤ 100 ∧ 0 < l ∧ j + 2 ≤ l := by omega
    have HLM : Hid (l = n + 1) := hlm
    clear hlm
    obtain ⟨g5, c5, rfl⟩ := own_some L3.kids hl2.2.1
    have o1 : ∀ u ∈ ks.map (fun k => ptrV (some k)) ++ [Value.pointer none], u.oneCell' = true := fun u hu => (List.mem_append.1 hu).elim (fun h => kids_one _ u h) (fun h => by simp at h; rw [h]; rfl)
    go_upto_region 28 with fail
    refine r28 L3 (by omega) hl2.2.2 o1 ?_
    rintro _ _ _ _ _ _ _ _ _ _ _ _ _ _ _ w4 L4
    clear L3 o1
    go_upto_region 29 with fail
    refine r29 L4 (by omega) (by omega) ?_
    rintro _ _ _ _ _ _ _ _ w5 L5
    clear L4
    have hAl : (ks.map (fun k => ptrV (some k))).length = n := by rw [List.length_map]; exact HN.out.symm
    have eK : (moved (ks.map (fun k => ptrV (some k)) ++ [Value.pointer none]) (j + 2) (j + 1) (l - (j + 2))).set (j + 1) (.pointer (some ⟨s, 0, none⟩)) = ks'.map (fun k => ptrV (some k)) := by
      have h1 := moved_set_aux (ks.map (fun k => ptrV (some k))) (.pointer none) (.pointer (some ⟨s, 0, none⟩)) (j + 1) (by rw [hAl]; omega)
      rw [hAl, ← HLM.out] at h1
      refine h1.trans ?_
      rw [HKS'.out, ← List.map_take, ← List.map_drop]
      have h2 : ks.take (j + 1) = ks.take j ++ [cj] := by
        conv => lhs; rw [HSP.out]
        have hjl : (ks.take j).length = j := by rw [List.length_take, ← HN.out]; omega
        rw [List.take_append, List.take_of_length_le (by omega), hjl, show j + 1 - j = 1 by omega]
        simp
      rw [h2]
      simp [ptrV]
    rw [eK] at L5
    have kd := HKDX.out
    have hlk' : l = ks'.length := by
      have h1 := congrArg List.length eK
      rw [List.length_set, moved_len (by simp [hAl]; have := HLM.out; omega) (by simp [hAl]; have := HLM.out; omega), List.length_append, hAl, List.length_map] at h1
      rw [← h1, HLM.out]; rfl
    have hlu : ks'.length ≤ 100 ∧ 0 < ks'.length := by rw [← hlk']; omega
    have hlwd : l ≤ wd + 1 := by have := HKW.out; have := HN.out; have := HLM.out; omega
    clear eK hAl
    have hbD1 := kd.bD
    have hlw : l ≤ 100 ∧ 0 < l := by rw [hlk']; exact hlu
    obtain ⟨k0, hk0⟩ : ∃ k0, ks'[0]? = some k0 := ⟨_, List.getElem?_eq_getElem (by rw [← hlk']; exact hlw.2)⟩
    have hk0m : k0 ∈ ks' := List.mem_of_getElem? hk0
    have hk0D : k0 ∈ D1 := (kd.idm k0 (List.mem_flatMap.2 ⟨k0, hk0m, ids_self _ _⟩)).1
    have hk0b : k0 ≠ b := fun e => kd.bn k0 hk0m (e ▸ ids_self d k0)
    have x0 : w5.cell? ⟨k0, 3, none⟩ = some (.int .u64 (C1 k0).fi) := (IW.far R1 hbD1 (hBB ▸ L5) hk0D hk0b).cell (i := 3) (by omega)
    have hsz1 : (C1 b).sz = ((elems C (d + 1) b).length : Int) := by rw [kd.same, HSZ.out, HKS.out]; rfl
    have HSZ1 : Hid _ := hsz1
    have hszb : 0 ≤ (C1 b).sz ∧ (C1 b).sz ≤ 100000 := by rw [hsz1]; have := HLEN.out; omega
    have HKD1 : Hid _ := kd
    have HLK : Hid (l = ks'.length) := hlk'
    have HK0 : Hid (ks'[0]? = some k0) := hk0
    have HR1 : Hid _ := R1
    have HQ1 : Hid _ := q1
    have HBB : Hid (b :: (C1 b).ch.ownBlock.toList = BB) := hBB
    clear kd hlk' hlu hk0 R1 q1 hBB hsz1
    go_upto_region 30 with fail
    refine r30 L5 hlw.2 (by rw [List.getElem?_map, HK0.out]; rfl) x0 hszb ?_
    rintro _ _ _ _ _ _ _ _ _ _ _ _ _ _ _ _ _ _ _ _ w6 L6
    clear L5 x0
    have L6b := L6
    rw [← HBB.out] at L6b
    have T6 := IW.done HR1.out hbD1 L6b HLK.out rfl
    rw [upd_id, upd_id] at T6
    obtain ⟨e0, e1, e2, e3, e4, e5, e6⟩ := L6.facts
    have TA := ((HR.out.below HB1.out).trans ⟨HQ1.out.rep, HQ1.out.keeps, HQ1.out.grows⟩).trans T6
    have kd := HKD1.out
    have hl1 : (insK k (elems C (d + 1) b)).length = (elems C (d + 1) b).length + 1 := insK_len _ _
    have hszF : (C1 b).sz + 1 = ((ks'.flatMap (elems C1 d)).length : Int) := by rw [kd.el, hl1, HSZ1.out]; omega
    have HTA : Hid _ := TA
    have HT6 : Hid _ := T6
    have HSF : Hid _ := hszF
    clear kd hl1 hszF TA T6 L6 L6b
    by_cases hsp : wd < l
    · have hdd : decide ((wd : Int) < (l : Int)) = true := by simp; exact hsp
      have hq2 : Int.tdiv (l : Int) 2 = ((l / 2 : Nat) : Int) := by rw [Int.tdiv_eq_ediv_of_nonneg (by omega)]; omega
      obtain ⟨h, hh⟩ : ∃ h, h = l / 2 := ⟨_, rfl⟩
      rw [← hh] at hq2
      have hwq : IntKind.i64.wrap (h : Int) = (h : Int) := by rw [IntKind.wrap_i64]; omega
      have hb1 : h < l ∧ 0 < h ∧ l ≤ wd + 1 := ⟨by omega, by omega, hlwd⟩
      have HH : Hid (h = l / 2) := hh
      clear hh
      go_upto_region 33 with fail
      obtain ⟨C6, hC6⟩ : ∃ C6, C6 = upd C1 b ⟨(C1 b).nu, (C1 b).va, .slice (some ⟨g5, 0, none⟩) l c5, (C1 b).xs, ks', (C1 k0).fi, (C1 b).sz + 1⟩ := ⟨_, rfl⟩
      have T6 := HT6.out
      rw [← hC6] at T6
      have c6b : C6 b = ⟨(C1 b).nu, (C1 b).va, .slice (some ⟨g5, 0, none⟩) l c5, (C1 b).xs, ks', (C1 k0).fi, (C1 b).sz + 1⟩ := by rw [hC6, upd_same]
      have c6x : ∀ x, x ≠ b → C6 x = C1 x := fun x hx => by rw [hC6, upd_other _ _ hx]
      have TA := HTA.out
      rw [← hC6] at TA
      clear hC6 HT6 HTA hdd hq2 hwq
      refine r33 T6.rep hbD1 (by rw [c6b]) (by rw [c6b]; exact HLK.out.symm) (by omega) hb1.1 ?_
      rintro _ _ _ _ _ _ _ _ _ v9 w7 ⟨u, chU, rfl, huw, T7⟩
      have huD : u ∉ D1 := fun hu => by have := node_blk T6.rep hu; omega
      have hub : b ≠ u := fun e => huD (e ▸ hbD1)
      rw [show (C6 b).ks = ks' by rw [c6b]] at T7
      obtain ⟨C7, hC7⟩ : ∃ C7, C7 = upd C6 u ⟨.slice none 0 0, .slice none 0 0, chU, [], ks'.drop h, 0, 0⟩ := ⟨_, rfl⟩
      rw [← hC7] at T7
      have c7u : C7 u = ⟨.slice none 0 0, .slice none 0 0, chU, [], ks'.drop h, 0, 0⟩ := by rw [hC7, upd_same]
      have c7b : C7 b = C6 b := by rw [hC7, upd_other _ _ hub]
      have c7x : ∀ x, x ≠ b → x ≠ u → C7 x = C1 x := fun x hx hx2 => by rw [hC7, upd_other _ _ hx2, c6x x hx]
      clear hC7
      have hbD7 : b ∈ u :: D1 := List.mem_cons_of_mem _ hbD1
      have hdl : (ks'.drop h).length = l - h := by rw [List.length_drop, ← HLK.out]
      have htl : (ks'.take h).length = h := by rw [List.length_take, ← HLK.out]; omega
      have chf := own_some (T7.rep.at_ u (by simp)).kids (by rw [c7u]; show 0 < (ks'.drop h).length; omega)
      rw [c7u] at chf
      have HCHF : Hid _ := chf
      clear chf
      have L7 := T7.rep.inner hbD7
      generalize hB7 : b :: (C7 b).ch.ownBlock.toList = B7 at L7
      rw [show (C7 b).ch = .slice (some ⟨g5, 0, none⟩) l c5 by rw [c7b, c6b], show (C7 b).ks = ks' by rw [c7b, c6b], ← HLK.out] at L7
      have HB7 : Hid (b :: (C7 b).ch.ownBlock.toList = B7) := hB7
      clear hB7
      go_upto_region 34 with fail
      refine r34 L7 (by omega) hb1.1 ?_
      rintro _ _ _ _ _ _ w8 ⟨ys, L8, hys⟩
      go_upto_region 35 with fail
      refine r35 L8 (by omega) (Nat.le_of_lt hb1.1) ?_
      rintro _ _ _ _ _ _ _ _ _ w9 L9
      rw [← HB7.out] at L9
      have T9 := IW.done T7.rep hbD7 L9 (ks := ks'.take h) htl.symm (by rw [hys, List.map_take])
      rw [upd_id, upd_id] at T9
      clear L7 L8 L9
      obtain ⟨C9, hC9⟩ : ∃ C9, C9 = upd C7 b ⟨(C7 b).nu, (C7 b).va, .slice (some ⟨g5, 0, none⟩) h c5, (C7 b).xs, ks'.take h, (C7 b).fi, (C7 b).sz⟩ := ⟨_, rfl⟩
      rw [← hC9] at T9
      have c9b : C9 b = ⟨(C7 b).nu, (C7 b).va, .slice (some ⟨g5, 0, none⟩) h c5, (C7 b).xs, ks'.take h, (C7 b).fi, (C7 b).sz⟩ := by rw [hC9, upd_same]
      have c9u : C9 u = C7 u := by rw [hC9, upd_other _ _ (fun e => hub e.symm)]
      have c9x : ∀ x, x ≠ b → x ≠ u → C9 x = C1 x := fun x hx hx2 => by rw [hC9, upd_other _ _ hx, c7x x hx hx2]
      clear hC9
      have kd := HKD1.out
      have hkx : ∀ x ∈ ks', x ∈ D1 ∧ x ≠ b ∧ x ≠ u ∧ 0 ≤ (C1 x).sz ∧ (C1 x).sz ≤ 100000 := fun x hx => by
        have hxD := (kd.idm x (List.mem_flatMap.2 ⟨x, hx, ids_self _ _⟩)).1
        refine ⟨hxD, fun e => kd.bn x hx (e ▸ ids_self d x), fun e => huD (e ▸ hxD), ?_⟩
        rw [(kd.wf x hx).1.size]
        have h1 := len_flat (elems C1 d) hx
        rw [kd.el, insK_len] at h1
        have := HLEN.out
        omega
      have hkx9 : ∀ x ∈ ks', C9 x = C1 x := fun x hx => c9x x (hkx x hx).2.1 (hkx x hx).2.2.1
      obtain ⟨ku, hku⟩ : ∃ ku, (ks'.drop h)[0]? = some ku := ⟨_, List.getElem?_eq_getElem (by omega)⟩
      have hkb : (ks'.take h)[0]? = some k0 := by rw [List.getElem?_take_of_lt (by omega)]; exact HK0.out
      have e9u : (C9 u).ks = ks'.drop h := by rw [c9u, c7u]
      have cR1 := resum12 w0 (u :: D1) C9 _ _ w9 u T9.rep (by simp) (fun x hx => by
        rw [e9u] at hx
        have hx' := List.mem_of_mem_drop hx
        obtain ⟨a1, a2, a3, a4⟩ := hkx x hx'
        rw [hkx9 x hx']
        exact ⟨List.mem_cons_of_mem _ a1, a3, a4⟩) ku (by rw [e9u]; exact hku) (by rw [e9u, hdl]; omega)
      have HT9 : Hid _ := T9
      have HTB : Hid _ := (TA.trans T7).trans T9
      have HC9B : Hid _ := c9b
      have HE9U : Hid _ := e9u
      have HC9U : Hid _ := c9u
      have HC7U : Hid _ := c7u
      have HC7B : Hid _ := c7b
      have HC6B : Hid _ := c6b
      have HKX : Hid _ := hkx
      have HKX9 : Hid _ := hkx9
      have HKU : Hid _ := hku
      have HKB : Hid _ := hkb
      have HTL : Hid _ := htl
      have HDL : Hid _ := hdl
      have HC9X : Hid _ := c9x
      clear T6 TA T7 T9 c6b c7u c7b c9b c9u e9u hkx hkx9 hku hkb htl hdl kd c6x c7x c9x hys
      go_upto_region 37 with (go_at_call 12; refine cR1.mono ?_; rintro e w10 ⟨rfl, RB1⟩)
      have T10 := RowB.done HT9.out.rep (by simp) RB1
      obtain ⟨C10, hC10⟩ : ∃ C10, C10 = upd C9 u { C9 u with fi := (C9 ku).fi, sz := sumK C9 (C9 u).ks } := ⟨_, rfl⟩
      rw [← hC10] at T10
      have c10u : C10 u = { C9 u with fi := (C9 ku).fi, sz := sumK C9 (C9 u).ks } := by rw [hC10, upd_same]
      have c10b : C10 b = C9 b := by rw [hC10, upd_other _ _ hub]
      have c10x : ∀ x, x ≠ b → x ≠ u → C10 x = C1 x := fun x hx hx2 => by rw [hC10, upd_other _ _ hx2, HC9X.out x hx hx2]
      have e10b : (C10 b).ks = ks'.take h := by rw [c10b, HC9B.out]
      have hkx10 : ∀ x ∈ ks', C10 x = C1 x := fun x hx => c10x x (HKX.out x hx).2.1 (HKX.out x hx).2.2.1
      clear hC10
      have cR2 := resum12 w0 (u :: D1) C10 _ _ w10 b T10.rep hbD7 (fun x hx => by
        rw [e10b] at hx
        have hx' := List.mem_of_mem_take hx
        obtain ⟨a1, a2, a3, a4⟩ := HKX.out x hx'
        rw [hkx10 x hx']
        exact ⟨List.mem_cons_of_mem _ a1, a2, a4⟩) k0 (by rw [e10b]; exact HKB.out) (by rw [e10b, HTL.out]; omega)
      have HT10 : Hid _ := T10
      have HC10U : Hid _ := c10u
      have HC10B : Hid _ := c10b
      have HC10X : Hid _ := c10x
      have HE10B : Hid _ := e10b
      have HKX10 : Hid _ := hkx10
      clear T10 c10u c10b c10x e10b hkx10 RB1 cR1
      go_wp2_with (go_at_call 12; refine cR2.mono ?_; rintro e w11 ⟨rfl, RB2⟩)
      go_ret2
      have T11 := RowB.done HT10.out.rep hbD7 RB2
      have eC : upd C10 b { C10 b with fi := (C10 k0).fi, sz := sumK C10 (C10 b).ks } = upd (upd C1 b { C10 b with fi := (C10 k0).fi, sz := sumK C10 (C10 b).ks }) u (C10 u) := by
        funext x
        by_cases x1 : x = b
        · subst x1; rw [upd_same, upd_other _ _ hub, upd_same]
        · by_cases x2 : x = u
          · subst x2; rw [upd_other _ _ x1, upd_same]
          · rw [upd_other _ _ x1, upd_other _ _ x2, upd_other _ _ x1, HC10X.out x x1 x2]
      have TF := (HTB.out.trans HT10.out).trans T11
      rw [eC] at TF
      have kd := HKD1.out
      have hxs1 : (C1 b).xs = [] := by rw [kd.same]; exact HXS.out
      have m1 : ∀ x ∈ ks'.take h, x ∈ ks' := fun x hx => List.mem_of_mem_take hx
      have m2 : ∀ x ∈ ks'.drop h, x ∈ ks' := fun x hx => List.mem_of_mem_drop hx
      have u2 : (C10 u).ks = ks'.drop h := by rw [HC10U.out]; exact HE9U.out
      have key := close1 kd (ids_self _ _) (fun x hx => (HPRE.out.ab x hx).1) huD (r1 := { C10 b with fi := (C10 k0).fi, sz := sumK C10 (C10 b).ks }) (r2 := C10 u)
        (by show (C10 b).ks ++ (C10 u).ks = ks'; rw [HE10B.out, u2, List.take_append_drop])
        (fun e => by have e2 : (C10 b).ks = [] := e; rw [HE10B.out] at e2; have := HTL.out; rw [e2] at this; simp at this; omega)
        (fun e => by rw [u2] at e; have := HDL.out; rw [e] at this; simp at this; omega)
        ⟨g5, c5, by show (C10 b).ch = .slice _ (C10 b).ks.length _; rw [HE10B.out, HTL.out, HC10B.out, HC9B.out]⟩
        (by show (C10 b).xs = []; rw [HC10B.out, HC9B.out]; show (C7 b).xs = []; rw [HC7B.out, HC6B.out]; exact hxs1)
        (by show (C10 b).ks.length ≤ wd; rw [HE10B.out, HTL.out]; omega)
        (by show sumK C10 (C10 b).ks = (((C10 b).ks.flatMap (elems C1 d)).length : Int); rw [HE10B.out, sumK_congr (fun x hx => HKX10.out x (m1 x hx))]; exact sum_len (fun x hx => kd.wf x (m1 x hx)))
        (fun x hx => by
          have hx' : ((C10 b).ks.flatMap (elems C1 d)).head? = some x := hx
          rw [HE10B.out] at hx'
          show (C10 k0).fi = x
          rw [HKX10.out k0 (m1 k0 (List.mem_of_getElem? HKB.out))]
          exact head_fi (fun y hy => kd.wf y (m1 y hy)) HKB.out x hx')
        (by obtain ⟨gu, cu, e⟩ := HCHF.out; exact ⟨gu, cu, by rw [u2, HC10U.out]; show (C9 u).ch = _; rw [HC9U.out, HC7U.out]; exact e⟩)
        (by rw [HC10U.out]; show (C9 u).xs = []; rw [HC9U.out, HC7U.out])
        (by rw [u2, HDL.out]; have := HH.out; omega)
        (by rw [u2, HC10U.out]; show sumK C9 (C9 u).ks = _; rw [HE9U.out, sumK_congr (fun x hx => HKX9.out x (m2 x hx))]; exact sum_len (fun x hx => kd.wf x (m2 x hx)))
        (fun x hx => by
          rw [u2] at hx
          rw [HC10U.out]
          show (C9 ku).fi = x
          rw [HKX9.out ku (m2 ku (List.mem_of_getElem? HKU.out))]
          exact head_fi (fun y hy => kd.wf y (m2 y hy)) HKU.out x hx)
        (P2 := upd P1 u none) (N2 := upd N1 u none) (fun x hx => ⟨upd_other _ _ (fun (e : x = u) => huD (e ▸ hx)), upd_other _ _ (fun (e : x = u) => huD (e ▸ hx))⟩) TF
      first | exact ⟨some u, rfl, u :: D1, _, _, _, key⟩ | exact ⟨some u, u :: D1, _, _, _, rfl, key⟩
    · have hdd : decide ((wd : Int) < (l : Int)) = false := by simp; omega
      go_wp2_with fail
      go_ret2
      have key := close0 HKD1.out (ids_self _ _) (r := ⟨(C1 b).nu, (C1 b).va, .slice (some ⟨g5, 0, none⟩) l c5, (C1 b).xs, ks', (C1 k0).fi, (C1 b).sz + 1⟩) rfl ⟨g5, c5, by rw [← HLK.out]⟩ (by show (C1 b).xs = []; rw [HKD1.out.same]; exact HXS.out) (by show ks'.length ≤ wd; rw [← HLK.out]; omega) HSF.out (head_fi HKD1.out.wf HK0.out) HTA.out
      first | exact ⟨none, rfl, D1, _, P1, N1, key⟩ | exact ⟨none, D1, _, P1, N1, rfl, key⟩



end Go.Proofs.Ybulkbiy
