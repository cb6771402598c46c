import Derived.Test.YbulkbiySoKit
import Derived.Test.YbulkbiyShelf
import Derived.Sort.Walk7
namespace Go.Proofs.Ybulkbiy
open Go.RowKit Go.Sort Go.Shelf

theorem npo68 (m : Nat) (hm : m < 4611686018427387904) (w : World) :
    Calls Yba.prog 37 #[.int .i64 m] w fun e w' => e = .returned (.int .u64 ((1 <<< bitsLen m : Nat) : Int)) ∧ w' = w :=
  AnyF.nextPowerOfTwo Yba.npoL m hm w

/-- A world of the sort's that holds, in a block of its own, the random generator's state. -/
def Bx (w0 : World) (blk off : Nat) (d : Array Int) (c x : Nat) (W : World) : Prop :=
  SI w0 blk off d W ∧ W.cell? ⟨c, 0, none⟩ = some (.int .u64 x) ∧ W.frozen? ⟨c, 0, none⟩ = false ∧ w0.heap.size ≤ c

theorem Bx.start {w0 W : World} {blk off : Nat} {d : Array Int} (S : SI w0 blk off d W) (x : Nat) (T : TypeId) : Bx w0 blk off d W.heap.size x (W.alloc (.cells #[.int .u64 x] T)) :=
  ⟨S.laid _, by simp, by simp, S.le⟩

theorem nx69 {w0 W : World} {blk off c x : Nat} {d : Array Int} (h : Bx w0 blk off d c x W) (hx : x < 18446744073709551616) :
    Calls Yba.prog 38 #[.pointer (some ⟨c, 0, none⟩)] W fun e w' => e = .returned (.int .u64 (xorNextN x : Nat)) ∧ Hid (Bx w0 blk off d c (xorNextN x) w') := by
  refine (AnyF.xorshift_Next Yba.xorL c 0 x hx W h.2.1 h.2.2.1).mono ?_
  rintro e w' ⟨he, rfl⟩
  exact ⟨he, (h.1.side c 0 _ h.2.2.2).drawn 3, World.cell?_setCell_same _ _ _ h.2.1, by show (W.setCell _ _).frozen? _ = _; rw [World.frozen?_setCell]; exact h.2.2.1, h.2.2.2⟩

theorem Bx.swap {w0 W : World} {blk off n c x : Nat} {d : Array Int} (B : Bed w0 blk off n) (h : Bx w0 blk off d c x W) (hs : d.size = n) {G : Nat → Int} (hG : ∀ t, G t = d[t]!) (i j : Nat) (hi : i < n) (hj : j < n) :
    Bx w0 blk off (swp d i j) c x (((W.drewN 1).setCell ⟨blk, off + i, none⟩ (.int .u64 (G j))).setCell ⟨blk, off + j, none⟩ (.int .u64 (G i))) := by
  have hne : c ≠ blk := by have := B.old; have := h.2.2.2; omega
  refine ⟨SI.swap B (h.1.drawn 1) hs hG i j hi hj, ?_, ?_, h.2.2.2⟩
  · rw [World.cell?_setCell_other _ _ _ _ (by simp), World.cell?_setCell_other _ _ _ _ (by simp)]
    exact h.2.1
  · rw [World.frozen?_setCell, World.frozen?_setCell]
    exact h.2.2.1

set_option maxHeartbeats 4000000 in
set_option maxRecDepth 100000 in
/-- breakPatternsOrdered, at more than twelve. -/
theorem brk74 {w0 : World} {blk off n : Nat} (B : Bed w0 blk off n) (cap a L : Nat) (d : Array Int) (w : World) (hs : d.size = n) (S : SI w0 blk off d w) (h12 : 12 < L) (hb : a + L ≤ n) :
    Calls Yba.prog 27 #[.slice (some ⟨blk, off, none⟩) n cap, .int .i64 a, .int .i64 ((a + L : Nat) : Int)] w fun e w' =>
      e = .returned (.tuple #[]) ∧ SI w0 blk off (breakPatterns d a (a + L)) w' := by
  have few := B.few
  rw [breakPatterns_eq d a L (by omega)]
  obtain ⟨M, hM⟩ : ∃ M : Nat, M = 1 <<< bitsLen L := ⟨_, rfl⟩
  have hM1 : 1 ≤ M := by rw [hM, Nat.one_shiftLeft]; exact Nat.two_pow_pos _
  have hM2 : M ≤ 2 * L := by rw [hM, Nat.one_shiftLeft]; exact two_pow_bitsLen_le (by omega)
  have hNP := npo68 L (by omega)
  rw [← hM] at hNP ⊢
  clear hM
  have HB : Hid (Bed w0 blk off n) := B
  have HS : Hid (Bx w0 blk off d w.heap.size (UInt64.ofNat L).toNat (w.alloc (Obj.cells #[.int .u64 (L : Int)] 59))) := by
    have e : (UInt64.ofNat L).toNat = L := by simp; omega
    rw [e]
    exact Bx.start S L 59
  have eL : (a : Int) + (L : Int) - (a : Int) = (L : Int) := by omega
  have h8z : (8 : Int) ≤ (L : Int) := by omega
  obtain ⟨i0, hi0⟩ : ∃ i0 : Nat, i0 = a + L / 4 * 2 - 1 := ⟨_, rfl⟩
  have ei : (a : Int) + (L : Int) / 4 * 2 - 1 = (i0 : Int) := by omega
  have ei2 : (a : Int) + (L : Int) / 4 * 2 + 1 = (i0 : Int) + 2 := by omega
  have bi0 : a ≤ i0 ∧ i0 + 2 < a + L := by omega
  rw [← hi0]
  clear hi0 B S
  go_enter Yba.func27, Yba.ntmps27
  go_wp2_with (first | (go_at_call 37; refine (hNP _).mono ?_; rintro e w' ⟨rfl, rfl⟩))
  go_loopw [9] (fun vi wr => ∃ (ix t : Nat) (r : UInt64) (dk : Array Int), vi = .int .i64 ix ∧ ix = i0 + t ∧ t ≤ 3 ∧ dk.size = n ∧ Hid (Bx w0 blk off dk w.heap.size r.toNat wr) ∧
      Hid (bpRest a L M i0 (3 - t) t (r, dk) = bpRest a L M i0 3 0 (UInt64.ofNat L, d))) (fun vi _ => i0 + 3 - (intOf vi).toNat)
  case atStart => exact ⟨i0, 0, UInt64.ofNat L, d, rfl, rfl, by omega, hs, HS, rfl⟩
  case round =>
    obtain ⟨ix, t, r, dk, rfl, hix, ht, hsk, HK, HR⟩ := hrel
    clear HS hNP
    by_cases h3 : t = 3
    · subst h3
      go_wp2_with fail
      go_end0
      exact ⟨rfl, by rw [← HR.out]; exact HK.out.1⟩
    · have bx1 : ix ≤ i0 + 2 := by omega
      have bx2 : i0 ≤ ix := by omega
      have HIX : Hid (ix = i0 + t) := hix
      clear hix
      have hnx := nx69 HK.out r.toNat_lt
      obtain ⟨R, hRR⟩ : ∃ R : Nat, R = xorNextN r.toNat := ⟨_, rfl⟩
      have lR : R < 18446744073709551616 := by rw [hRR]; exact xorNextN_lt _ r.toNat_lt
      have HRR : Hid (R = (xorNext r).toNat) := by show _ = _; rw [hRR, xorNext_toNat]
      rw [← hRR] at hnx
      obtain ⟨O, hO⟩ : ∃ O : Nat, O = R &&& (M - 1) := ⟨_, rfl⟩
      have lO : O ≤ M - 1 := by rw [hO]; exact Nat.and_le_right
      have HO : Hid (O = (xorNext r).toNat &&& (M - 1)) := by show _ = _; rw [hO, HRR.out]
      have eAnd : bits .and .u64 (R : Int) ((M : Int) - 1) = (O : Int) := by
        rw [show ((M : Int) - 1) = ((M - 1 : Nat) : Int) by omega, bits_and_u64_nat _ _ lR (by omega), hO]
      clear hRR hO HK
      by_cases hLO : L ≤ O
      · obtain ⟨o, ho⟩ : ∃ o : Nat, o = O - L := ⟨_, rfl⟩
        have eO : (O : Int) - (L : Int) = (o : Int) := by omega
        have lo : o < L := by omega
        have HOO : Hid (o = O - L) := ho
        clear ho
        go_wp2_with (first | (go_at_call 38; refine hnx.mono ?_; rintro e w1 ⟨rfl, H1⟩))
        obtain ⟨G, HG, hcw, hfw⟩ := HB.out.fam H1.out.1 hsk
        obtain ⟨v3, hy3⟩ := cell?_setCell_some (w := w1) (p := ⟨blk, off + ix, none⟩) (x := .int .u64 (G (a + o))) (q := ⟨blk, off + (a + o), none⟩) (hcw _ (by omega))
        have rE : IntKind.i64.wrap ((a : Int) + (o : Int)) = (a : Int) + (o : Int) := by rw [IntKind.wrap_i64]; omega
        go_region
        all_goals go_wp2_with fail
        all_goals go_roundw
        case rel => exact ⟨ix + 1, t + 1, xorNext r, swp dk ix (a + o), by go_num, by rw [HIX.out]; omega, by omega, by rw [size_swp]; exact hsk, by rw [← HRR.out]; exact Bx.swap HB.out H1.out hsk HG.out ix (a + o) (by omega) (by omega), by rw [← HR.out, bp_step a L M _ t r dk o (by omega) (by rw [← HO.out, if_pos (by omega), HOO.out]), HIX.out]; rfl⟩
        case measure => simp [intOf]; omega
      · obtain ⟨o, ho⟩ : ∃ o : Nat, o = O := ⟨_, rfl⟩
        subst ho
        have lo : o < L := by omega
        go_wp2_with (first | (go_at_call 38; refine hnx.mono ?_; rintro e w1 ⟨rfl, H1⟩))
        obtain ⟨G, HG, hcw, hfw⟩ := HB.out.fam H1.out.1 hsk
        obtain ⟨v3, hy3⟩ := cell?_setCell_some (w := w1) (p := ⟨blk, off + ix, none⟩) (x := .int .u64 (G (a + o))) (q := ⟨blk, off + (a + o), none⟩) (hcw _ (by omega))
        have rE : IntKind.i64.wrap ((a : Int) + (o : Int)) = (a : Int) + (o : Int) := by rw [IntKind.wrap_i64]; omega
        go_region
        all_goals go_wp2_with fail
        all_goals go_roundw
        case rel => exact ⟨ix + 1, t + 1, xorNext r, swp dk ix (a + o), by go_num, by rw [HIX.out]; omega, by omega, by rw [size_swp]; exact hsk, by rw [← HRR.out]; exact Bx.swap HB.out H1.out hsk HG.out ix (a + o) (by omega) (by omega), by rw [← HR.out, bp_step a L M _ t r dk o (by omega) (by rw [← HO.out, if_neg (by omega)]), HIX.out]; rfl⟩
        case measure => simp [intOf]; omega

end Go.Proofs.Ybulkbiy
