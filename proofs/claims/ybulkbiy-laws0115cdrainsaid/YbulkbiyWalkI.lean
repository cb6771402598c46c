import Derived.Test.YbulkbiyWalk18
/-! walk (18): an inner node; any depth. -/
namespace Go.Proofs.Ybulkbiy
attribute [local go_sem ↓] Go.wp_at_zero Go.wp_at_succ
open Go.RowKit Go.Maps Go.Sort

set_option maxHeartbeats 4000000 in
set_option maxRecDepth 100000 in
theorem walk_inner {w0 : World} {D : List Nat} {C : Nat → Nd} {P N : Nat → Option Nat} {W1 : World} (h : Rep w0 D C P N W1) {wd d b : Nat} (hb : b ∈ D) (hwd : wd ≤ 99) (wf : WF C wd (d + 1) b) (hkD : ∀ k ∈ (C b).ks, k ∈ D) {o : Nat} {v : Value} {ys : List Int} {w : World} (O : OutAt W1 o v ys w) (hl : ys.length + (elems C (d + 1) b).length ≤ 1000)
    (IH : ∀ k ∈ (C b).ks, ∀ (v : Value) (ys : List Int) (w : World), OutAt W1 o v ys w → ys.length + (elems C d k).length ≤ 1000 → Calls Yba.prog 18 #[.pointer (some ⟨k, 0, none⟩), .pointer (some ⟨o, 0, none⟩)] w fun e w' => e = .returned (.bool true) ∧ ∃ v', OutAt W1 o v' (ys ++ elems C d k) w') :
    Calls Yba.prog 18 #[.pointer (some ⟨b, 0, none⟩), .pointer (some ⟨o, 0, none⟩)] w fun e w' => e = .returned (.bool true) ∧ ∃ v', OutAt W1 o v' (ys ++ elems C (d + 1) b) w' := by
  obtain ⟨⟨g, c, hch⟩, hxs, hkw, hszb, hfib, hkids⟩ := wf
  have hel : elems C (d + 1) b = (C b).ks.flatMap (elems C d) := rfl
  rw [hel] at hl ⊢
  obtain ⟨ks, hks⟩ : ∃ ks, ks = (C b).ks := ⟨_, rfl⟩
  have F0 : ∀ wr, Below W1.heap.size W1 wr → wr.cell? ⟨b, 2, none⟩ = some (.slice (some ⟨g, 0, none⟩) ks.length c) ∧ wr.cell? ⟨b, 3, none⟩ = some (.int .u64 (C b).fi) ∧ wr.cell? ⟨b, 4, none⟩ = some (.int .i64 (C b).sz) ∧ b < wr.heap.size := fun wr hbl => by
    have hr := ((h.below hbl).rep.at_ b hb).row
    refine ⟨?_, hr.cell (i := 3) (by omega), hr.cell (i := 4) (by omega), hr.lt⟩
    rw [hr.cell (i := 2) (by omega), hks, ← hch]; rfl
  have F1 : ∀ wr, Below W1.heap.size W1 wr → ∀ j, j < ks.length → wr.cell? ⟨g, j, none⟩ = some (.pointer (some ⟨ks[j]!, 0, none⟩)) ∧ wr.cell? ⟨ks[j]!, 4, none⟩ = some (.int .i64 (C ks[j]!).sz) ∧ wr.cell? ⟨ks[j]!, 3, none⟩ = some (.int .u64 (C ks[j]!).fi) ∧ ks[j]! < wr.heap.size := fun wr hbl j hj => by
    have hR := (h.below hbl).rep
    have hm : ks[j]! ∈ D := hkD _ (by rw [← hks, getElem!_pos ks j hj]; exact List.getElem_mem _)
    have hr := (hR.at_ _ hm).row
    refine ⟨?_, hr.cell (i := 4) (by omega), hr.cell (i := 3) (by omega), hr.lt⟩
    have := hR.kidcell hb hch rfl (i := j) (by rw [← hks]; exact hj)
    rw [this, hks]
  rw [← hks] at hl hkids IH hszb hfib ⊢
  have hsum := sum_len hkids
  have hszs : (C b).sz = sumK C ks := by rw [hszb]; exact hsum.symm
  have hsz : ∀ x ∈ ks, 0 < (C x).sz ∧ (C x).sz ≤ 1000 := fun x hx => by
    have hw := hkids x hx
    rw [hw.1.size]
    have h1 := List.length_pos_iff.2 hw.2
    have h2 := len_flat (elems C d) hx
    omega
  have hfi : ∀ k0, ks[0]? = some k0 → (C b).fi = (C k0).fi := fun k0 hk0 => by
    have hne : ks.flatMap (elems C d) ≠ [] := fun e => by
      have hm := List.mem_of_getElem? hk0
      have h2 := len_flat (elems C d) hm
      rw [e, List.length_nil] at h2
      have h3 := List.length_pos_iff.2 (hkids k0 hm).2
      omega
    obtain ⟨x, xs, hx⟩ := List.exists_cons_of_ne_nil hne
    rw [hfib x (by rw [hx]; rfl), head_fi hkids hk0 x (by rw [hx]; rfl)]
  obtain ⟨n, hn⟩ : ∃ n, n = ks.length := ⟨_, rfl⟩
  rw [← hn] at F0 F1
  have hn1 : n ≤ 99 := by rw [hn, hks]; omega
  have HN : Hid (n = ks.length) := hn
  have HF0 : Hid _ := F0
  have HF1 : Hid _ := F1
  have HSS : Hid _ := hszs
  have HSZ : Hid _ := hsz
  have HFI : Hid _ := hfi
  have HIH : Hid _ := IH
  have HL : Hid _ := hl
  have HSB : Hid (0 ≤ (C b).sz ∧ (C b).sz ≤ 1000) := by rw [hszb]; show _ ∧ _; omega
  clear hn hks F0 F1 hszs hsz hfi IH hl hsum hkids hszb hfib hxs hch hkw hel h hkD
  have q := q30
  obtain ⟨e0, e1, e2, e3⟩ := HF0.out w O.bel
  go_enter Yba.func18, Yba.ntmps18
  go_wp2_with fail
  clear e0 e1 e2 e3
  go_loopw [7, 104] (fun vs vj wr => ∃ (j : Nat) (v : Value), j ≤ n ∧ vj = .int .i64 (j : Nat) ∧ vs = .int .i64 (sumK C (ks.take j)) ∧ OutAt W1 o v (ys ++ (ks.take j).flatMap (elems C d)) wr) (fun _ vj _ => n - (intOf vj).toNat)
  case atStart => exact ⟨0, v, Nat.zero_le _, rfl, rfl, by rw [List.take_zero, List.flatMap_nil, List.append_nil]; exact O⟩
  case round =>
    obtain ⟨j, v1, hj, rfl, rfl, O3⟩ := hrel
    by_cases hjn : j < n
    · obtain ⟨x1, x2, x3, x4⟩ := HF1.out wr O3.bel j hjn
      have hj' : j < ks.length := by rw [← HN.out]; exact hjn
      obtain ⟨kd, hkd⟩ : ∃ kd, kd = ks[j]! := ⟨_, rfl⟩
      have hF1j := fun wr hbl => HF1.out wr hbl j hjn
      rw [← hkd] at x1 x2 hF1j x4
      have hkm : kd ∈ ks := by rw [hkd, getElem!_pos ks j hj']; exact List.getElem_mem _
      have htk : ks.take (j + 1) = ks.take j ++ [kd] := by rw [List.take_add_one, List.getElem?_eq_getElem hj', hkd, getElem!_pos ks j hj']; rfl
      have hz := HSZ.out kd hkm
      have hlen : (ys ++ (ks.take j).flatMap (elems C d)).length + (elems C d kd).length ≤ 1000 := by
        have h1 : ks = ks.take (j + 1) ++ ks.drop (j + 1) := (List.take_append_drop _ _).symm
        have h2 := HL.out
        rw [h1, htk] at h2
        simp only [List.flatMap_append, List.flatMap_cons, List.flatMap_nil, List.append_nil, List.length_append] at h2 ⊢
        omega
      have cc := HIH.out kd hkm v1 _ wr O3 hlen
      have hs0 := sumK_le C (ks.take j) (fun x hx => by have := HSZ.out x (List.mem_of_mem_take hx); omega)
      have hs1 : ((ks.take j).map fun k => (C k).sz).sum = sumK C (ks.take j) := rfl
      rw [hs1] at hs0
      have hs2 : (ks.take j).length ≤ 99 := by rw [List.length_take, ← HN.out]; omega
      have hnext : sumK C (ks.take (j + 1)) = sumK C (ks.take j) + (C kd).sz := by rw [htk]; unfold sumK; simp
      have hS : 0 ≤ sumK C (ks.take j) ∧ sumK C (ks.take j) ≤ 9900000 := by omega
      obtain ⟨S, hSS⟩ : ∃ S, S = sumK C (ks.take j) := ⟨_, rfl⟩
      rw [← hSS] at hS hnext ⊢
      obtain ⟨z, hzz⟩ : ∃ z, z = (C kd).sz := ⟨_, rfl⟩
      rw [← hzz] at x2 hz hnext hF1j
      have hle : decide (z ≤ 0) = false := by simp; omega
      have hw : IntKind.i64.wrap (S + z) = S + z := by rw [IntKind.wrap_i64]; omega
      have HNX : Hid _ := hnext
      have HTK : Hid _ := htk
      have HFJ : Hid _ := hF1j
      clear hzz hSS hnext htk hkd hs0 hs1 hs2 hlen x3 hF1j O3 hkm hj'
      go_wp2_with (go_at_call 18; refine cc.mono ?_; rintro e w2 ⟨rfl, v2, O4⟩; obtain ⟨y1, y2, y3, y4⟩ := HFJ.out w2 O4.bel; have HO4 : Hid _ := O4; clear O4 y1 y3)
      go_roundw
      case rel =>
        refine ⟨j + 1, v2, by omega, by go_num, by rw [HNX.out], ?_⟩
        have hO := HO4.out
        rw [HTK.out, List.flatMap_append, ← List.append_assoc]
        simpa using hO
      case measure => simp [intOf]; omega
    · obtain rfl : j = n := by omega
      rw [List.take_of_length_le (by rw [← HN.out]; exact Nat.le_refl _)] at O3 ⊢
      rw [← HSS.out]
      obtain ⟨e0, e1, e2, e3⟩ := HF0.out wr O3.bel
      have hsb := HSB.out
      have hz0 : ¬ 0 < j → (C b).sz = 0 := fun hh => by
        have hk : ks = [] := List.length_eq_zero_iff.1 (by rw [← HN.out]; omega)
        rw [HSS.out, hk]; rfl
      generalize (C b).sz = z at e2 hsb hz0
      by_cases h0 : 0 < j
      · obtain ⟨x1, x2, x3, x4⟩ := HF1.out wr O3.bel 0 h0
        have hf := HFI.out ks[0]! (by rw [List.getElem?_eq_getElem (by rw [← HN.out]; exact h0), getElem!_pos])
        rw [← hf] at x3
        clear hf x2
        generalize ks[0]! = k0 at x1 x3 x4
        generalize (C b).fi = fi at e1 x3
        by_cases hz : 0 < z
        · have hdd : decide ((0 : Int) < z) = true := by simp; exact hz
          go_wp2_with fail
          go_quiet (fail)
          go_wp2_with fail
          go_ret
          exact ⟨rfl, v1, O3.drewN nq⟩
        · have hdd : decide ((0 : Int) < z) = false := by simp; omega
          go_wp2_with fail
          go_quiet (fail)
          go_wp2_with fail
          go_ret
          exact ⟨rfl, v1, O3.drewN nq⟩
      · obtain rfl := hz0 h0
        obtain rfl : j = 0 := by omega
        clear hz0 h0
        go_wp2_with fail
        go_quiet (fail)
        go_wp2_with fail
        go_ret
        exact ⟨rfl, v1, O3.drewN nq⟩

theorem walk18 {w0 : World} {D : List Nat} {C : Nat → Nd} {P N : Nat → Option Nat} {W1 : World} (h : Rep w0 D C P N W1) {wd : Nat} (hwd : wd ≤ 99) {o : Nat} : ∀ (d b : Nat), WF C wd d b → (∀ x ∈ ids C d b, x ∈ D) → (elems C d b).Pairwise (· < ·) → ∀ (v : Value) (ys : List Int) (w : World), OutAt W1 o v ys w → ys.length + (elems C d b).length ≤ 1000 →
    Calls Yba.prog 18 #[.pointer (some ⟨b, 0, none⟩), .pointer (some ⟨o, 0, none⟩)] w fun e w' => e = .returned (.bool true) ∧ ∃ v', OutAt W1 o v' (ys ++ elems C d b) w'
  | 0, b, wf, hid, hs, v, ys, w, O, hl => walk_leaf h (hid b (ids_self _ _)) wf hs O hl
  | d + 1, b, wf, hid, hs, v, ys, w, O, hl => by
    have hs2 := hs
    simp only [elems] at hs2
    rw [List.pairwise_flatMap] at hs2
    exact walk_inner h (hid b (ids_self _ _)) hwd wf (fun k hk => hid k (ids_kid hk (ids_self _ _))) O hl (fun k hk v ys w O hl => walk18 h hwd d k (wf.2.2.2.2.2 k hk).1 (fun x hx => hid x (ids_kid hk hx)) (hs2.1 k hk) v ys w O hl)

end Go.Proofs.Ybulkbiy
