import Derived.Test.YbulkbiyWalkL
/-! walk (18): a leaf. -/
namespace Go.Proofs.Ybulkbiy
attribute [local go_sem ↓] Go.wp_at_zero Go.wp_at_succ
open Go.RowKit Go.Maps Go.Sort

set_option maxHeartbeats 4000000 in
set_option maxRecDepth 100000 in
theorem walk_leaf {w0 : World} {D : List Nat} {C : Nat → Nd} {P N : Nat → Option Nat} {W1 : World} (h : Rep w0 D C P N W1) {wd b : Nat} (hb : b ∈ D) (wf : WF C wd 0 b) (hs : (C b).xs.Pairwise (· < ·)) {o : Nat} {v : Value} {ys : List Int} {w : World} (O : OutAt W1 o v ys w) (hl : ys.length + (C b).xs.length ≤ 1000) :
    Calls Yba.prog 18 #[.pointer (some ⟨b, 0, none⟩), .pointer (some ⟨o, 0, none⟩)] w fun e w' => e = .returned (.bool true) ∧ ∃ v', OutAt W1 o v' (ys ++ (C b).xs) w' := by
  have hat := h.at_ b hb
  obtain ⟨a, c, hnu⟩ := own_formY hat.nums
  obtain ⟨a2, c2, hva⟩ := own_formY hat.vals
  have F0 : ∀ wr, Below W1.heap.size W1 wr → wr.cell? ⟨b, 0, none⟩ = some (.slice a (C b).xs.length c) ∧ wr.cell? ⟨b, 1, none⟩ = some (.slice a2 (C b).xs.length c2) ∧ wr.cell? ⟨b, 2, none⟩ = some (.slice none 0 0) ∧ wr.cell? ⟨b, 3, none⟩ = some (.int .u64 (C b).fi) ∧ wr.cell? ⟨b, 4, none⟩ = some (.int .i64 (C b).xs.length) ∧ b < wr.heap.size := fun wr hbl => by
    have hr := ((h.below hbl).rep.at_ b hb).row
    refine ⟨?_, ?_, ?_, hr.cell (i := 3) (by omega), ?_, hr.lt⟩
    · rw [hr.cell (i := 0) (by omega), ← hnu]; rfl
    · rw [hr.cell (i := 1) (by omega), ← hva]; rfl
    · rw [hr.cell (i := 2) (by omega), ← wf.1]; rfl
    · rw [hr.cell (i := 4) (by omega), ← wf.2.2.2.1]; rfl
  have F1 : ∀ i, i < (C b).xs.length → ∃ g g2, a = some ⟨g, 0, none⟩ ∧ a2 = some ⟨g2, 0, none⟩ ∧ ∀ wr, Below W1.heap.size W1 wr → wr.cell? ⟨g, i, none⟩ = some (.int .u64 (C b).xs[i]!) ∧ wr.cell? ⟨g2, i, none⟩ = some (.int .u64 (vx (C b).xs[i]!)) ∧ (0 < i → wr.cell? ⟨g, i - 1, none⟩ = some (.int .u64 (C b).xs[i - 1]!)) := fun i hi => by
    obtain ⟨g, c', e1, _⟩ := hat.num hi
    obtain ⟨g2, c2', e2⟩ := own_some hat.vals (by omega)
    rw [hnu] at e1
    rw [hva] at e2
    injection e1 with e1 _ _
    injection e2 with e2 _ _
    refine ⟨g, g2, e1, e2, fun wr hbl => ?_⟩
    have hr := ((h.below hbl).rep.at_ b hb)
    have hn1 := hr.nums
    have hv1 := hr.vals
    rw [hnu, e1] at hn1
    rw [hva, e2] at hv1
    refine ⟨(own_at hn1 (by rw [List.getElem?_map, List.getElem?_eq_getElem hi, getElem!_pos _ i hi]; rfl)).1, (own_at hv1 (by rw [List.getElem?_map, List.getElem?_eq_getElem hi, getElem!_pos _ i hi]; rfl)).1, fun h0 => ?_⟩
    exact (own_at hn1 (by rw [List.getElem?_map, List.getElem?_eq_getElem (by omega : i - 1 < _), getElem!_pos _ (i - 1) (by omega)]; rfl)).1
  have F2 : ∀ i, 0 < i → i < (C b).xs.length → (C b).xs[i - 1]! < (C b).xs[i]! := fun i h0 hi => by
    rw [getElem!_pos _ (i - 1) (by omega), getElem!_pos _ i hi]
    exact List.pairwise_iff_getElem.1 hs (i - 1) i (by omega) hi (by omega)
  have F3 : 0 < (C b).xs.length → (C b).fi = (C b).xs[0]! := fun h0 => wf.2.2.2.2 _ (by rw [List.head?_eq_getElem?, List.getElem?_eq_getElem h0, getElem!_pos _ 0 h0])
  obtain ⟨xs, hxs⟩ : ∃ xs, xs = (C b).xs := ⟨_, rfl⟩
  rw [← hxs] at F0 F1 F2 F3 hl ⊢
  obtain ⟨m, hm⟩ : ∃ m, m = xs.length := ⟨_, rfl⟩
  rw [← hm] at F0 F1 F2 F3 hl
  have HM : Hid (m = xs.length) := hm
  have HF0 : Hid _ := F0
  have HF1 : Hid _ := F1
  have HF2 : Hid _ := F2
  have HF3 : Hid _ := F3
  clear hm hxs F0 F1 F2 F3 hnu hva hat wf hs h
  have q := q30
  obtain ⟨i23, hi23, hz0, hz1, hz2⟩ := info_parts infoY23
  generalize (C b).fi = fi at HF0 HF3
  obtain ⟨e0, e1, e2, e3, e4, e5⟩ := HF0.out w O.bel
  go_enter Yba.func18, Yba.ntmps18
  go_wp2_with fail
  go_quiet (fail)
  have O2 := O.drewN nq
  clear O e0 e1 e2 e3 e4 e5
  generalize w.drewN nq = w2 at O2 ⊢
  obtain ⟨e0, e1, e2, e3, e4, e5⟩ := HF0.out w2 O2.bel
  go_wp2_with fail
  clear e0 e1 e2 e3 e4 e5
  go_loopw [43] (fun vi wr => ∃ (i : Nat) (v : Value), i ≤ m ∧ vi = .int .i64 (i : Nat) ∧ OutAt W1 o v (ys ++ xs.take i) wr) (fun vi _ => m - (intOf vi).toNat)
  case atStart => exact ⟨0, v, Nat.zero_le _, rfl, by rw [List.take_zero, List.append_nil]; exact O2⟩
  case round =>
    obtain ⟨i, v1, hi, rfl, O3⟩ := hrel
    obtain ⟨e0, e1, e2, e3, e4, e5⟩ := HF0.out wr O3.bel
    by_cases hin : i < m
    · obtain ⟨g, g2, rfl, rfl, hc⟩ := HF1.out i hin
      obtain ⟨x1, x2, x3⟩ := hc wr O3.bel
      obtain ⟨a3, c3, rfl⟩ := own_formY O3.own
      have y0 : wr.cell? ⟨o, 0, none⟩ = some (.slice a3 (ys ++ xs.take i).length c3) := O3.row.cell (i := 0) (by omega)
      have ol := O3.row.lt
      have hlen : (ys ++ xs.take (i + 1)).length = (ys ++ xs.take i).length + 1 := by
        have := HM.out
        simp only [List.length_append, List.length_take]; omega
      have hmap : (ys ++ xs.take i).map (Value.int .u64) ++ [Value.int .u64 xs[i]!] = (ys ++ xs.take (i + 1)).map (Value.int .u64) := by
        have hi' : i < xs.length := by rw [← HM.out]; exact hin
        have e : xs.take (i + 1) = xs.take i ++ [xs[i]!] := by rw [List.take_add_one, List.getElem?_eq_getElem hi', getElem!_pos _ i hi']; rfl
        rw [e, ← List.append_assoc, List.map_append (l₁ := ys ++ xs.take i)]
        rfl
      have hlb : (ys ++ xs.take i).length ≤ 1000 := by
        simp only [List.length_append, List.length_take]; have := HM.out; omega
      have HLEN : Hid _ := hlen
      have HMAP : Hid _ := hmap
      have hlt2 := HF2.out i
      clear hc hlen hmap
      unfold vx at x2
      obtain ⟨L, hL⟩ : ∃ L, L = (ys ++ xs.take i).length := ⟨_, rfl⟩
      have hlb0 := hlb
      rw [← hL] at y0 hlb O3
      have ow := O3.own
      rw [← hL] at ow
      obtain ⟨L1, hL1⟩ : ∃ L1, L1 = L + 1 := ⟨_, rfl⟩
      have hL2 : L1 = (ys ++ xs.take (i + 1)).length := by rw [HLEN.out, hL1, hL]
      have HL1 : Hid (L + 1 = L1) := hL1.symm
      have HL2 : Hid (L1 = (ys ++ xs.take (i + 1)).length) := hL2
      clear hL1 hL2
      have HLL : Hid (L = (ys ++ xs.take i).length) := hL
      clear hL
      obtain ⟨xi, hxi⟩ : ∃ xi, xi = xs[i]! := ⟨_, rfl⟩
      rw [← hxi] at x1 x2 hlt2 HMAP
      clear hxi
      by_cases h0 : 0 < i
      · have x4 := x3 h0
        have hlt3 := hlt2 h0 hin
        have hI : decide ((0 : Int) < (i : Int)) = true := by simp; exact h0
        have hwi : IntKind.i64.wrap ((i : Int) - 1) = ((i - 1 : Nat) : Int) := by rw [IntKind.wrap_i64]; omega
        have hi1 : i - 1 < m := by omega
        have hge : decide (xs[i - 1]! ≥ xi) = false := decide_eq_false (Int.not_le.2 hlt3)
        generalize xs[i - 1]! = xp at x4 hge
        clear x3 hlt2 hlt3
        go_wp2_with (first | (at_builtin; (refine wpList_append_own_at _ rfl (.tmp 75) (.tmp 77) 22 rfl W1.heap.size 23 i23 (.int .u64 0) 1 8 Yba.underlying22 hi23 hz0 hz1 hz2 rfl (by decide) (.slice a3 L c3) L _ rfl (ow.alloc _) ⟨wr.heap.size, 0, none⟩ 1 1 [.int .u64 xi] rfl rfl (cell_one_new _ _ _) (by simp [Value.oneCell']) (by unfold maxLen; omega) (by omega) (O3.alloc _).bel.size ?_; intro v' w3 ho hg hnil hat; rw [HL1.out] at ho; obtain ⟨a4, c4, rfl⟩ := own_formY ho; have r3 := (O3.alloc _).row.of_block (hg.block o (O3.alloc _).row.lt (fun e => (O3.alloc (.cells #[.int .u64 xi] 23)).ne e.symm)); have t0 := r3.cell (i := 0) (by omega); have t1 := r3.frozen 0; have t2 := r3.lt; have HO : Hid _ := ho; have HG : Hid _ := hg; have HA : Hid _ := hat; clear ho hg hnil hat r3)))
        go_roundw
        case rel =>
          have ho := HO.out
          have ha := HA.out
          rw [HMAP.out, HL2.out] at ho
          rw [HL2.out] at ha ⊢
          exact ⟨_, _, by omega, by go_num, (O3.alloc _).turn HG.out ho ha⟩
        case measure => simp [intOf]; omega
      · obtain rfl : i = 0 := by omega
        clear x3 hlt2 h0
        go_wp2_with (first | (at_builtin; (refine wpList_append_own_at _ rfl (.tmp 75) (.tmp 77) 22 rfl W1.heap.size 23 i23 (.int .u64 0) 1 8 Yba.underlying22 hi23 hz0 hz1 hz2 rfl (by decide) (.slice a3 L c3) L _ rfl (ow.alloc _) ⟨wr.heap.size, 0, none⟩ 1 1 [.int .u64 xi] rfl rfl (cell_one_new _ _ _) (by simp [Value.oneCell']) (by unfold maxLen; omega) (by omega) (O3.alloc _).bel.size ?_; intro v' w3 ho hg hnil hat; rw [HL1.out] at ho; obtain ⟨a4, c4, rfl⟩ := own_formY ho; have r3 := (O3.alloc _).row.of_block (hg.block o (O3.alloc _).row.lt (fun e => (O3.alloc (.cells #[.int .u64 xi] 23)).ne e.symm)); have t0 := r3.cell (i := 0) (by omega); have t1 := r3.frozen 0; have t2 := r3.lt; have HO : Hid _ := ho; have HG : Hid _ := hg; have HA : Hid _ := hat; clear ho hg hnil hat r3)))
        go_roundw
        case rel =>
          have ho := HO.out
          have ha := HA.out
          rw [HMAP.out, HL2.out] at ho
          rw [HL2.out] at ha ⊢
          exact ⟨_, _, by omega, by go_num, (O3.alloc _).turn HG.out ho ha⟩
        case measure => simp [intOf]; omega
    · have hie : i = m := by omega
      subst hie
      rw [List.take_of_length_le (by rw [← HM.out]; exact Nat.le_refl _)] at O3
      by_cases h0 : 0 < i
      · obtain ⟨g, g2, rfl, rfl, hc⟩ := HF1.out 0 h0
        obtain ⟨x1, _, _⟩ := hc wr O3.bel
        have hf := HF3.out h0
        rw [← hf] at x1
        have hI : decide ((0 : Int) < (i : Int)) = true := by simp; exact h0
        clear hc hf
        go_wp2_with fail
        go_quiet (fail)
        go_wp2_with fail
        go_ret
        exact ⟨rfl, v1, O3.drewN nq⟩
      · obtain rfl : i = 0 := by omega
        go_wp2_with fail
        go_quiet (fail)
        go_wp2_with fail
        go_ret
        exact ⟨rfl, v1, O3.drewN nq⟩

end Go.Proofs.Ybulkbiy
