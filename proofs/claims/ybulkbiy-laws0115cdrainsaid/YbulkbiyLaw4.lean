import Derived.Test.YbulkbiySetC
/-! Drain (4). -/
namespace Go.Proofs.Ybulkbiy
attribute [local go_sem ↓] Go.wp_at_zero Go.wp_at_succ
open Go.RowKit Go.Maps Go.Sort

/-- The model, as it stands: nothing in it, or a row of its own. -/
def ModAt (w : World) (ma : Option Addr) (mc mb : Nat) (S : List Int) : Prop := S = [] ∨ (ma = some ⟨mb, 0, none⟩ ∧ OwnL w mb mc S ∧ mc ≤ maxLen)

theorem set6m (a : Option Addr) (n c : Nat) (K : Nat → Int) (w : World) (h : ArgV w a n K) (hn : n ≤ 256) :
    Calls Yba.prog 6 #[.slice a n c] w fun e w' => ∃ ma mc mb, e = .returned (.slice ma (setI K n).length mc) ∧ ModAt w' ma mc mb (setI K n) ∧ w.heap.size ≤ mb ∧ Below w.heap.size w w' := by
  rcases h with rfl | ⟨b, off, rfl, hc⟩
  · refine (set6_zero a c w).mono ?_
    rintro e w' ⟨⟨a', c', rfl⟩, hb⟩
    exact ⟨a', c', w.heap.size, rfl, .inl rfl, Nat.le_refl _, hb⟩
  · refine (set6c b off n c K w hc hn).mono ?_
    rintro e w' ⟨g, cp, rfl, hg, hcm, ho, hb⟩
    rw [setL_eq] at *
    exact ⟨_, cp, g, rfl, .inr ⟨rfl, ho, hcm⟩, hg, hb⟩

set_option maxHeartbeats 8000000 in
set_option maxRecDepth 100000 in
theorem drain4 (a : Option Addr) (n c : Nat) (K : Nat → Int) (ra : Option Addr) (m rc : Nat) (Q : Nat → Int) (wv : Int) (W : World) (hA : ArgV W a n K) (hB : ArgV W ra m Q) (hQ : ∀ i, i < m → 0 ≤ Q i ∧ Q i < 18446744073709551616) (hwv : 0 ≤ wv ∧ wv < 256) :
    Calls Yba.prog 4 #[.slice a n c, .slice ra m rc, .int .u8 wv] W fun e w' => e = .returned (.bool true) ∧ Below W.heap.size W w' := by
  by_cases hbig : 256 < n
  · have hd : decide ((256 : Int) < (n : Int)) = true := by simp; omega
    clear hA hB hQ
    go_enter Yba.func4, Yba.ntmps4
    go_wp2_with fail
    go_ret
    exact ⟨rfl, Below.refl _ _⟩
  by_cases hbig2 : 256 < m
  · have hd : decide ((256 : Int) < (n : Int)) = false := by simp; omega
    have hd2 : decide ((256 : Int) < (m : Int)) = true := by simp; omega
    clear hA hB hQ hbig
    go_enter Yba.func4, Yba.ntmps4
    go_wp2_with fail
    go_ret
    exact ⟨rfl, Below.refl _ _⟩
  have hn : n ≤ 256 := by omega
  have hm : m ≤ 256 := by omega
  have hd : decide ((256 : Int) < (n : Int)) = false := by simp; omega
  have hd2 : decide ((256 : Int) < (m : Int)) = false := by simp; omega
  obtain ⟨r, hr, hr4⟩ : ∃ r : Nat, Int.tmod wv 4 = (r : Int) ∧ r < 4 := ⟨(Int.tmod wv 4).toNat, by rw [Int.tmod_eq_emod_of_nonneg hwv.1]; omega, by rw [Int.tmod_eq_emod_of_nonneg hwv.1]; omega⟩
  have hw1 : IntKind.u8.wrap (r : Int) = (r : Int) := by rw [IntKind.wrap_u8]; omega
  have hw2 : IntKind.i64.wrap (r : Int) = (r : Int) := by rw [IntKind.wrap_i64]; omega
  obtain ⟨wd, hwd⟩ : ∃ wd, wd = 2 + r := ⟨_, rfl⟩
  have hw3 : IntKind.i64.wrap (2 + (r : Int)) = (wd : Int) := by rw [IntKind.wrap_i64]; omega
  have hwd2 : 2 ≤ wd ∧ wd ≤ 99 := by omega
  have HA : Hid (ArgV W a n K) := hA
  have HB : Hid (ArgV W ra m Q) := hB
  have HQ : Hid _ := hQ
  clear hA hB hQ hwd hbig hbig2
  have c5 := build5 a n c K wd hwd2 W (ArgV.toU HA.out) hn
  go_enter Yba.func4, Yba.ntmps4
  go_upto_region 5 with (go_at_call 5; refine c5.mono ?_; rintro e w1 ⟨R, rfl, T1⟩)
  clear c5 hr hw1 hw2 hw3 hd hd2
  have hb1 : Below W.heap.size W w1 := by obtain ⟨_, _, _, _, _, hR, _⟩ := T1; exact hR.bel
  have c6 := set6m a n c K w1 (ArgV.below HA.out hb1) hn
  go_upto_region 6 with (go_at_call 6; refine c6.mono ?_; rintro e w2 ⟨ma, mc, mb, rfl, M2, hmb, hb2⟩)
  clear c6
  have T2 := (T1.toW.toM hmb).below hb2
  have hWmb : W.heap.size ≤ mb := Nat.le_trans hb1.size hmb
  have hML := setI_len K n
  generalize setI K n = S0 at M2 T2 hML ⊢
  clear T1 hb1 hb2 hmb
  go_wp2_with fail
  go_loopw [9, 34] (fun vm vi wr => ∃ (i : Nat) (S : List Int) (ma : Option Addr), i ≤ m ∧ vi = .int .i64 (i : Nat) ∧ vm = .slice ma S.length mc ∧ ModAt wr ma mc mb S ∧ TreeM W wd S R mb wr ∧ S.length ≤ n) (fun _ vi _ => m - (intOf vi).toNat)
  case atStart => exact ⟨0, S0, ma, Nat.zero_le _, rfl, rfl, M2, T2, hML⟩
  case round =>
    clear M2 T2 hML
    obtain ⟨i, S, ma, hi, rfl, rfl, M, T, hSn⟩ := hrel
    by_cases him : i < m
    · obtain ⟨rb, ro, rfl, hrc⟩ : ∃ b off, ra = some ⟨b, off, none⟩ ∧ ∀ i, i < m → W.cell? ⟨b, off + i, none⟩ = some (.int .u64 (Q i)) := by
        rcases HB.out with h | h
        · omega
        · exact h
      have hri := hrc i him
      have z0 := (T.bel.cell (p := ⟨rb, ro + i, none⟩) (World.block_lt_of_cell? W _ hri)).trans hri
      obtain ⟨z4, zl⟩ := T.size
      have hq := HQ.out i him
      generalize Q i = rv at z0 hq
      clear hrc hri
      by_cases hS : S = []
      · subst hS
        have z4' : wr.cell? ⟨R, 4, none⟩ = some (.int .i64 0) := z4
        clear z4 M
        simp only [List.length_nil]
        go_wp2_with fail
        go_ret
        exact ⟨rfl, T.bel⟩
      · obtain ⟨rfl, O, hmc⟩ := M.resolve_left hS
        have hpos : 0 < S.length := List.length_pos_iff.2 hS
        have hsz : ((S.length : Int) == 0) = false := beq_eq_false_iff_ne.2 (by omega)
        obtain ⟨sl, hsl⟩ : ∃ sl, sl = S.length := ⟨_, rfl⟩
        rw [← hsl] at z4 hsz hSn ⊢
        have HSL : Hid (sl = S.length) := hsl
        clear hsl M hpos
        go_upto_region 12 with fail
        go_cut [54] (fun vc wx => (∃ pb : Bool, vc = .bool pb ∧ (pb = true → 0 < n)) ∧ wx = wr)
        case first =>
          obtain ⟨r2, hr2, hr22⟩ : ∃ r2 : Nat, Int.tmod rv 2 = (r2 : Int) ∧ r2 < 2 := ⟨(Int.tmod rv 2).toNat, by rw [Int.tmod_eq_emod_of_nonneg hq.1]; omega, by rw [Int.tmod_eq_emod_of_nonneg hq.1]; omega⟩
          have hu2 : IntKind.u64.wrap (r2 : Int) = (r2 : Int) := by rw [IntKind.wrap_u64]; omega
          by_cases hn0 : 0 < n
          · have hd : decide ((0 : Int) < (n : Int)) = true := by simp; omega
            by_cases h0 : r2 = 0
            · subst h0
              go_wp2_with fail
              all_goals go_meet
              all_goals exact ⟨⟨_, rfl, fun _ => hn0⟩, rfl⟩
            · have hrz : ((r2 : Int) == 0) = false := beq_eq_false_iff_ne.2 (by omega)
              go_wp2_with fail
              all_goals go_meet
              all_goals exact ⟨⟨_, rfl, fun _ => hn0⟩, rfl⟩
          · obtain rfl : n = 0 := by omega
            go_wp2_with fail
            all_goals go_meet
            all_goals exact ⟨⟨_, rfl, fun h => by cases h⟩, rfl⟩
        case rest =>
          obtain ⟨⟨pb, rfl, hpb⟩, rfl⟩ := hcut
          rename World => wr
          go_upto_if 54 with fail
          go_cut [12] (fun vc wx => (∃ kk, vc = .int .u64 kk) ∧ wx = wr)
          case first =>
            cases pb with
            | false =>
              go_wp2_with fail
              all_goals go_meet
              all_goals exact ⟨⟨_, rfl⟩, rfl⟩
            | true =>
              have hn0 := hpb rfl
              obtain ⟨b, off, rfl, hc⟩ : ∃ b off, a = some ⟨b, off, none⟩ ∧ ∀ i, i < n → W.cell? ⟨b, off + i, none⟩ = some (.int .u64 (K i)) := by
                rcases HA.out with h | h
                · omega
                · exact h
              obtain ⟨hf, hhf, hhb⟩ : ∃ hf : Nat, Int.tdiv rv 2 = (hf : Int) ∧ hf < 18446744073709551616 := ⟨(Int.tdiv rv 2).toNat, by rw [Int.tdiv_eq_ediv_of_nonneg hq.1]; omega, by rw [Int.tdiv_eq_ediv_of_nonneg hq.1]; omega⟩
              have hu1 : IntKind.u64.wrap (hf : Int) = (hf : Int) := by rw [IntKind.wrap_u64]; omega
              have hu : IntKind.u64.wrap (n : Int) = (n : Int) := by rw [IntKind.wrap_u64]; omega
              have hm0 := Int.emod_nonneg (hf : Int) (by omega : (n : Int) ≠ 0)
              have hm1 := Int.emod_lt_of_pos (hf : Int) (by omega : (0 : Int) < (n : Int))
              obtain ⟨ix, hix, hixn⟩ : ∃ ix : Nat, Int.tmod (hf : Int) (n : Int) = (ix : Int) ∧ ix < n := ⟨((hf : Int) % (n : Int)).toNat, by rw [Int.tmod_eq_emod_of_nonneg (by omega)]; omega, by omega⟩
              have hu2 : IntKind.u64.wrap (ix : Int) = (ix : Int) := by rw [IntKind.wrap_u64]; omega
              have hu3 : IntKind.i64.wrap (ix : Int) = (ix : Int) := by rw [IntKind.wrap_i64]; omega
              have hcx0 := hc ix hixn
              have hcx := (T.bel.cell (p := ⟨b, off + ix, none⟩) (World.block_lt_of_cell? W _ hcx0)).trans hcx0
              have hnz : ¬ n = 0 := by omega
              generalize K ix = kx at hcx
              clear hc hm0 hm1 hcx0
              go_wp2_with fail
              all_goals go_meet
              all_goals exact ⟨⟨_, rfl⟩, rfl⟩
          case rest =>
            obtain ⟨⟨kk, rfl⟩, rfl⟩ := hcut
            rename World => wr
            clear z0 z4 zl hq hpb hsz
            have hSl : S.length ≤ 1000 := by rw [← HSL.out]; omega
            have c9 := index9 O hSl kk
            have c7 := rem_rootM hwd2 T hS O.lt hSl kk
            have hsrt := T.sorted
            rw [← HSL.out] at c9
            by_cases hk : kk ∈ S
            · have hix := idx_in hsrt hk
              have hlt := (List.getElem?_eq_some_iff.1 ((mem_at hsrt).1 hk)).1
              have her := erase_at hsrt hk
              rw [← HSL.out] at hix hlt
              rw [hix] at c9
              generalize posOf S kk = ix at c9 hlt her
              rw [show decide (kk ∈ S) = true by simp [hk]] at c7
              have hel : (S.erase kk).length ≤ n := by have := List.length_erase_le (a := kk) (l := S); have := HSL.out; omega
              obtain ⟨S', hS'⟩ : ∃ S', S' = S.erase kk := ⟨_, rfl⟩
              rw [← hS'] at c7 her hel
              clear hS'
              have HO : Hid _ := O
              have HER : Hid _ := her
              clear hix her T
              go_upto_region 16 with (first | (go_at_call 9; refine c9.mono ?_; rintro e w5 ⟨rfl, rfl⟩) | (go_at_call 7; refine c7.mono ?_; rintro e w5 ⟨rfl, T5, hm5, hl5⟩))
              have O5 := OwnL.same HO.out hm5
              have c10 := delete10 O5 hmc ix (by rw [← HSL.out]; exact hlt)
              rw [← HSL.out, ← HER.out] at c10
              have hwi : IntKind.i64.wrap ((ix : Int) + 1) = ((ix + 1 : Nat) : Int) := by rw [IntKind.wrap_i64]; omega
              have hge : decide ((0 : Int) ≤ (ix : Int)) = true := by simp
              clear c7 c9
              go_upto_region 20 with (go_at_call 10; refine c10.mono ?_; rintro e w6 ⟨rfl, O6, hg6⟩)
              have T6 := T5.grown hWmb hg6
              have c8 := check8 T6.toW (by omega) (some ⟨mb, 0, none⟩) mc O6.lies n ⟨hel, by omega⟩
              clear c10 T5 hg6 O5 hm5 hl5
              go_wp2_with (go_at_call 8; refine c8.mono ?_; rintro e w7 ⟨rfl, hb7⟩)
              go_roundw
              case rel => exact ⟨i + 1, S', some ⟨mb, 0, none⟩, by omega, by go_num, rfl, .inr ⟨rfl, O6.same (hb7.block mb O6.lt), hmc⟩, T6.below hb7, hel⟩
              case measure => simp [intOf]; omega
            · have hix := idx_out hk
              rw [← HSL.out] at hix
              rw [hix] at c9
              have her : S.erase kk = S := List.erase_of_not_mem hk
              rw [her, show decide (kk ∈ S) = false by simp [hk]] at c7
              have HO : Hid _ := O
              clear hix her T
              go_upto_region 16 with (first | (go_at_call 9; refine c9.mono ?_; rintro e w5 ⟨rfl, rfl⟩) | (go_at_call 7; refine c7.mono ?_; rintro e w5 ⟨rfl, T5, hm5, hl5⟩))
              have O5 := OwnL.same HO.out hm5
              have c8 := check8 T5.toW (by omega) (some ⟨mb, 0, none⟩) mc O5.lies n ⟨by rw [← HSL.out]; exact hSn, by omega⟩
              rw [← HSL.out] at c8
              clear c7 c9
              go_wp2_with (go_at_call 8; refine c8.mono ?_; rintro e w7 ⟨rfl, hb7⟩)
              go_roundw
              case rel => exact ⟨i + 1, S, some ⟨mb, 0, none⟩, by omega, by go_num, by rw [← HSL.out], .inr ⟨rfl, O5.same (hb7.block mb O5.lt), hmc⟩, T5.below hb7, by rw [← HSL.out]; exact hSn⟩
              case measure => simp [intOf]; omega
    · obtain rfl : i = m := by omega
      go_wp2_with fail
      go_ret
      exact ⟨rfl, T.bel⟩

end Go.Proofs.Ybulkbiy
