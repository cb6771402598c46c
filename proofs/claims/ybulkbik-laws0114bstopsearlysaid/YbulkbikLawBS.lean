import Derived.Test.YbulkbikLawBM
namespace Go.Proofs.Ybulkbik
attribute [local go_sem ↓] Go.wp_at_zero Go.wp_at_succ
attribute [local go_sem] Oper.semAt_some
open Go.RowKit Go.Maps

theorem Gather.isCells {K S T n ob gB wB base w a1 c1 a2 c2 k W} (h : Gather K S T n ob gB wB base w a1 c1 a2 c2 k W) : ∀ b, gathM gB wB a1 c1 a2 c2 k b → ∃ c t r, W.heap[b]? = some (.cells c t r) := by
  rintro b (e | e | hb | hb)
  · exact ⟨_, _, _, by rw [e]; exact h.gi⟩
  · exact ⟨_, _, _, by rw [e]; exact h.gw⟩
  · rcases h.own1.2 with ⟨e, _⟩ | ⟨g, cap, cur, e, _, hg, _⟩
    · rw [e] at hb; simp [Value.ownBlock] at hb
    · rw [e] at hb; simp [Value.ownBlock] at hb; subst hb; exact ⟨_, _, _, hg⟩
  · rcases h.own2.2 with ⟨e, _⟩ | ⟨g, cap, cur, e, _, hg, _⟩
    · rw [e] at hb; simp [Value.ownBlock] at hb
    · rw [e] at hb; simp [Value.ownBlock] at hb; subst hb; exact ⟨_, _, _, hg⟩

theorem boxed_turn {M : Nat → Prop} {B X : Nat} {W W' : World} {b : Nat} {t : TypeId} {v : Value} (h : Boxed W b t v) (ht : Turn M B X W W') (h1 : b < B) (h2 : b ≠ X) : Boxed W' b t v := (ht.held b h.lt (.inr ⟨h1, h2⟩)).trans h
theorem boxed_held {M : Nat → Prop} {W W' : World} {b : Nat} {t : TypeId} {v : Value} (h : Boxed W b t v) (ht : Held M W W') (h1 : ¬ M b) : Boxed W' b t v := (ht.held b h.lt h1).trans h

theorem gotI_at {o : BOps} {n k q x : Nat} (hq : q < k) (hx : (readsB o n)[q]? = some x) : (gotI o n k)[q]? = some (.int .i64 (x : Int)) := by
  unfold gotI; rw [List.getElem?_map, List.getElem?_take_of_lt hq, hx]; rfl
theorem gotW_at {o : BOps} {n k q x : Nat} (hq : q < k) (hx : (readsB o n)[q]? = some x) : (gotW o n k)[q]? = some (.int .i32 (writerB o x)) := by
  unfold gotW; rw [List.getElem?_map, List.getElem?_take_of_lt hq, hx]; rfl

set_option maxRecDepth 100000 in
set_option maxHeartbeats 4000000 in
theorem stops6 (a0 : Option Addr) (n cap : Nat) (s : Nat) (K S : Nat → ByteArray) (T : Nat → Int) (w : World) (hn : n ≤ 256) (hs : s ≤ 255) (hbb : BBuilt (.slice a0 n cap) n K T S w) (hS : ∀ i, i < n → (S i).size ≤ maxLen) (hT : ∀ i, i < n → -2147483648 ≤ T i ∧ T i ≤ 2147483647) :
    Calls Yba.prog 6 #[.slice a0 n cap, .int .u8 (s : Int)] w fun e w' => e = .returned (.bool true) ∧ Below w.heap.size w w' := by
  refine callsIn_wide.1 (callsIn_of_wp_marks (n := 3) Yba.func6 rfl trivial (wpIn_wide.2 ?_))
  simp only [Yba.ntmps6, List.size_toArray, List.length_cons, List.length_nil, Nat.reduceAdd, Nat.reduceSub, Array.replicate_succ, Array.replicate_zero, List.push_toArray, List.append_toArray, List.nil_append, List.cons_append]
  go_wp2_with fail
  refine Calls.mono hbb ?_
  rintro e w1 ⟨rfl, hb1, hr1⟩
  have hl1 := hr1.lt
  go_wp2_with fail
  refine (newInput15 (w.heap.size + 1 + 1) n K S T w1 hn hr1 hT).mono ?_
  rintro e w2 ⟨ib, g0, ofb, eb, f, rfl, hb2, hin, hib, hofb, heb, hd1, hd2⟩
  go_wp2_with (first | (go_at_call 16; refine (reads16 ib _).mono ?_; rintro e w' ⟨rfl, rfl⟩))
  obtain ⟨kk, hkk⟩ : ∃ kk : Nat, ((s : Nat) : Int) % 6 = (kk : Int) := ⟨s % 6, by omega⟩
  rw [hkk]
  have hk6 : kk ≤ 6 := by omega
  have hobl : w.heap.size + 1 + 1 < w2.heap.size := by have := hb2.size; omega
  have ops2 := hr1.of_block (hb2.block _ hl1)
  have bel2 : Below w.heap.size w w2 := hb1.trans (hb2.mono hb1.size)
  have hi1 := hin.inp.lt
  have hi2 := hin.of.lt
  have hi3 := hin.ends.lt
  have hin3 : InpAt K T n (w.heap.size + 1 + 1) ib g0 ofb eb none f (((((w2.alloc (.cells #[.int .i64 (kk : Int)] 3))).alloc (.cells #[.slice none 0 0] 53)).alloc (.cells #[.slice none 0 0] 43)).alloc (.cells #[.pointer (some ⟨ib, 0, none⟩)] 32)) :=
    ⟨(((hin.inp.alloc _).alloc _).alloc _).alloc _, (((hin.of.alloc _).alloc _).alloc _).alloc _, (((hin.ends.alloc _).alloc _).alloc _).alloc _, hin.ab⟩
  have ops3 := (((ops2.alloc (.cells #[.int .i64 (kk : Int)] 3)).alloc (.cells #[.slice none 0 0] 53)).alloc (.cells #[.slice none 0 0] 43)).alloc (.cells #[.pointer (some ⟨ib, 0, none⟩)] 32)
  have box3 := World.rowIs_alloc (((w2.alloc (.cells #[.int .i64 (kk : Int)] 3)).alloc (.cells #[.slice none 0 0] 53)).alloc (.cells #[.slice none 0 0] 43)) #[.pointer (some ⟨ib, 0, none⟩)] 32 (fun _ => .pointer (some ⟨ib, 0, none⟩)) (fun i hi => by
      match i, hi with
      | 0, _ => rfl)
  have kb3 : Boxed (((((w2.alloc (.cells #[.int .i64 (kk : Int)] 3))).alloc (.cells #[.slice none 0 0] 53)).alloc (.cells #[.slice none 0 0] 43)).alloc (.cells #[.pointer (some ⟨ib, 0, none⟩)] 32)) (w2.heap.size) 3 (.int .i64 (kk : Int)) := (((Boxed.new w2 3 (.int .i64 (kk : Int))).alloc _).alloc _).alloc _
  have gi3 : Boxed (((((w2.alloc (.cells #[.int .i64 (kk : Int)] 3))).alloc (.cells #[.slice none 0 0] 53)).alloc (.cells #[.slice none 0 0] 43)).alloc (.cells #[.pointer (some ⟨ib, 0, none⟩)] 32)) (w2.heap.size + 1) 53 (.slice none 0 0) := by
    have := ((Boxed.new (w2.alloc (.cells #[.int .i64 (kk : Int)] 3)) 53 (.slice none 0 0)).alloc (.cells #[.slice none 0 0] 43)).alloc (.cells #[.pointer (some ⟨ib, 0, none⟩)] 32)
    simpa using this
  have gw3 : Boxed (((((w2.alloc (.cells #[.int .i64 (kk : Int)] 3))).alloc (.cells #[.slice none 0 0] 53)).alloc (.cells #[.slice none 0 0] 43)).alloc (.cells #[.pointer (some ⟨ib, 0, none⟩)] 32)) (w2.heap.size + 1 + 1) 43 (.slice none 0 0) := by
    have := (Boxed.new ((w2.alloc (.cells #[.int .i64 (kk : Int)] 3)).alloc (.cells #[.slice none 0 0] 53)) 43 (.slice none 0 0)).alloc (.cells #[.pointer (some ⟨ib, 0, none⟩)] 32)
    simpa using this
  have bel3 := (((bel2.alloc bel2.size (.cells #[.int .i64 (kk : Int)] 3)).alloc (by have := bel2.size; simp; omega) (.cells #[.slice none 0 0] 53)).alloc (by have := bel2.size; simp; omega) (.cells #[.slice none 0 0] 43)).alloc (by have := bel2.size; simp; omega) (.cells #[.pointer (some ⟨ib, 0, none⟩)] 32)
  simp only [World.size_alloc] at box3
  have hs3 : (((((w2.alloc (.cells #[.int .i64 (kk : Int)] 3))).alloc (.cells #[.slice none 0 0] 53)).alloc (.cells #[.slice none 0 0] 43)).alloc (.cells #[.pointer (some ⟨ib, 0, none⟩)] 32)).heap.size = w2.heap.size + 1 + 1 + 1 + 1 := by simp
  have hw2 := bel2.size
  obtain ⟨i3, hi3', hz30, hz31, hz32⟩ := info_parts info3
  obtain ⟨i21, hi21', hz210, hz211, hz212⟩ := info_parts info21
  clear hin ops2 hr1 hb1 hbb
  generalize ((((w2.alloc (.cells #[.int .i64 (kk : Int)] 3))).alloc (.cells #[.slice none 0 0] 53)).alloc (.cells #[.slice none 0 0] 43)).alloc (.cells #[.pointer (some ⟨ib, 0, none⟩)] 32) = w3 at *
  have hrl := readsB_le (bops K S T n) n
  refine wpIn_wide.1 (wpIn_rangeFunc_M (n := 3) rfl (fun h => by simp [Fence.wide] at h) (gf := 27) (lb := #[.pointer (some ⟨w2.heap.size + 1 + 1 + 1, 0, none⟩)]) rfl trivial (enters_of Yba.func27 (by kernel_rfl) rfl)
    (iter27 (w.heap.size + 1 + 1) ib ofb eb g0 (w2.heap.size + 1 + 1 + 1) n K S T f w3 2 hn hin3 ops3 hS box3 ⟨by omega, by omega, by omega, by omega⟩) ?hR (fun _ => rfl)
    (fun k M W => ∃ a1 c1 a2 c2, M = gathM (w2.heap.size + 1) (w2.heap.size + 1 + 1) a1 c1 a2 c2 k ∧ Gather K S T n (w.heap.size + 1 + 1) (w2.heap.size + 1) (w2.heap.size + 1 + 1) (w2.heap.size + 1 + 1 + 1 + 1) w a1 c1 a2 c2 k W ∧ Boxed W (w2.heap.size) 3 (.int .i64 (kk : Int)) ∧ k ≤ kk)
    (fun c W => c = Code.exit 0 ∧ kk < (readsB (bops K S T n) n).length ∧ ∃ a1 c1 a2 c2, Gather K S T n (w.heap.size + 1 + 1) (w2.heap.size + 1) (w2.heap.size + 1 + 1) (w2.heap.size + 1 + 1 + 1 + 1) w a1 c1 a2 c2 kk W ∧ Boxed W (w2.heap.size) 3 (.int .i64 (kk : Int)))
    (gathM (w2.heap.size + 1) (w2.heap.size + 1 + 1) none 0 none 0 0) ?hM0 ?hI ?hIb ?hIx ?h0
    (fun x => { tmps := #[Value.slice a0 n cap, Value.int IntKind.u8 (s : Int), undef, undef, Value.bool false, Value.slice (some ⟨w.heap.size + 1 + 1, 0, none⟩) n n, Value.pointer (some ⟨ib, 0, none⟩), Value.pointer (some ⟨w2.heap.size, 0, none⟩), Value.pointer (some ⟨w2.heap.size + 1, 0, none⟩), Value.pointer (some ⟨w2.heap.size + 1 + 1, 0, none⟩), Value.int .i64 (x : Int), Value.int .i32 (writerB (bops K S T n) x), undef, undef, undef, undef, Value.slice a0 n cap, Value.int IntKind.i64 (n : Int), Value.bool (decide ((256 : Int) < (n : Int))), Value.slice a0 n cap, Value.slice (some ⟨w.heap.size + 1 + 1, 0, none⟩) n n, Value.slice (some ⟨w.heap.size + 1 + 1, 0, none⟩) n n, Value.pointer (some ⟨ib, 0, none⟩), Value.int IntKind.u8 (s : Int), Value.int IntKind.i64 (s : Int), Value.int IntKind.i64 (kk : Int), Value.pointer (some ⟨ib, 0, none⟩), Value.func (Fn.func 27) #[] #[Value.pointer (some ⟨w2.heap.size + 1 + 1 + 1, 0, none⟩)], Value.int .i64 (x : Int), Value.int .i32 (writerB (bops K S T n) x), undef, undef, undef, undef, undef, undef, undef, undef, undef, undef, undef, undef, undef, undef, undef, undef, undef, undef, undef, undef, undef, undef, undef, undef, undef, undef, undef, undef, undef, undef, undef, undef, undef, undef, undef, undef, undef, undef, undef, undef, undef, undef, undef, undef, undef, undef, undef, undef, undef, undef, undef, undef, undef], defers := [] }) ?assign ?body ?done ?stop)
  case hR =>
    rintro b (e | e | e | e | e) <;> omega
  case hM0 =>
    rintro b (e | e | e | e)
    · refine ⟨by omega, ?_⟩
      rintro (h | h | h | h | h) <;> omega
    · refine ⟨by omega, ?_⟩
      rintro (h | h | h | h | h) <;> omega
    · simp [Value.ownBlock] at e
    · simp [Value.ownBlock] at e
  case hI =>
    rintro k M A B ⟨a1, c1, a2, c2, rfl, hG, hkb, hle⟩ ht
    exact ⟨a1, c1, a2, c2, rfl, hG.turn ht ⟨by omega, by omega⟩ (by omega) (by omega), boxed_turn hkb ht (by omega) (by omega), hle⟩
  case hIb =>
    rintro k M A ⟨a1, c1, a2, c2, rfl, hG, _⟩
    exact hG.mlt
  case hIx =>
    rintro c A r o ⟨hc, hkl, a1, c1, a2, c2, hG, hkb⟩ hl
    have ht : Turn (gathM (w2.heap.size + 1) (w2.heap.size + 1 + 1) a1 c1 a2 c2 kk) (w2.heap.size + 1 + 1 + 1 + 1) ib A (A.putObj (w3.heap.size + 1) o) := turn_putObj A _ o (fun h => by
      obtain ⟨cc, t, rr, e⟩ := hG.isCells _ h
      rw [hl] at e
      cases e) (by omega)
    exact ⟨hc, hkl, a1, c1, a2, c2, hG.turn ht ⟨by omega, by omega⟩ (by omega) (by omega), boxed_turn hkb ht (by omega) (by omega)⟩
  case h0 =>
    refine ⟨none, 0, none, 0, rfl, ⟨gi3, gw3, ?_, ?_, ops3, bel3, by omega⟩, kb3, Nat.zero_le _⟩
    · have := World.ownsRow_nil w3 (w2.heap.size + 1 + 1 + 1 + 1) 3 1
      simpa [gotI] using this
    · have := World.ownsRow_nil w3 (w2.heap.size + 1 + 1 + 1 + 1) 21 1
      simpa [gotW] using this
  case assign =>
    intro l x W K' hK'
    unfold encB
    gi_wp2
    exact hK'
  case body =>
    rintro l k x M W hx ⟨a1, c1, a2, c2, rfl, hG, hkb, hle⟩
    have hkL : k < (readsB (bops K S T n) n).length := (List.getElem?_eq_some_iff.1 hx).1
    have hkl : k < 256 := by omega
    have own1 := hG.own1
    have own2 := hG.own2
    have hsz := hG.sz
    have hap := own_apart own2 own1 (by decide)
    have g0c := hG.gi.cell
    have g0f := hG.gi.frozen
    have k0c := hkb.cell
    have HG : Hid (Gather K S T n (w.heap.size + 1 + 1) (w2.heap.size + 1) (w2.heap.size + 1 + 1) (w2.heap.size + 1 + 1 + 1 + 1) w a1 c1 a2 c2 k W) := hG
    have HKb : Hid (Boxed W (w2.heap.size) 3 (.int .i64 (kk : Int))) := hkb
    have gl := hG.gi.lt
    have wl := hG.gw.lt
    have kl := hkb.lt
    clear hG hkb
    by_cases hke : k = kk
    · have hke' : (k : Int) = (kk : Int) := by omega
      gi_wp2
      subst hke
      exact ⟨Held.refl _ _, rfl, hkL, a1, c1, a2, c2, HG.out, HKb.out⟩
    · have hke' : ¬ (k : Int) = (kk : Int) := by omega
      gi_wp2_with (first
        | (gi_at_builtin; (refine wpListIn_append_own_at _ rfl _ _ 53 rfl (w2.heap.size + 1 + 1 + 1 + 1) 3 i3 (.int .i64 0) 1 8 Yba.underlying53 hi3' hz30 hz31 hz32 rfl (by decide) _ _ _ rfl (own1.alloc _) ⟨W.heap.size, 0, none⟩ 1 1 [.int .i64 (x : Int)] rfl rfl (cell_one_new _ _ _) (by simp [Value.oneCell']) (by unfold maxLen; omega) (by omega) (by simp; omega) ?_; intro v' w4 hown' hgrow hnil hat; obtain ⟨a3, cp3, hv3⟩ := own_shape hown'; subst hv3; have own3 := (own2.alloc (.cells #[.int .i64 (x : Int)] 3)).kept hgrow hap; have b1 := (HG.out.gi.alloc (.cells #[.int .i64 (x : Int)] 3)).kept hgrow (own_lt_ne own1 (by omega)); have b2 := (HG.out.gw.alloc (.cells #[.int .i64 (x : Int)] 3)).kept hgrow (own_lt_ne own1 (by omega)); have hs4 : W.heap.size ≤ w4.heap.size := Nat.le_trans (by simp) hgrow.size; have y0 := b1.cell; have y1 := b1.frozen; have y2 := b2.cell; have y3 := b2.frozen; have HO : Hid _ := hown'; have HGr : Hid _ := hgrow; have HAt : Hid _ := hat; clear hown' hgrow hnil hat))
        | (gi_at_builtin; (refine wpListIn_append_own_at _ rfl _ _ 43 rfl (w2.heap.size + 1 + 1 + 1 + 1) 21 i21 (.int .i32 0) 1 4 Yba.underlying43 hi21' hz210 hz211 hz212 rfl (by decide) _ _ _ rfl ((own_set_other own3 (a := ⟨w2.heap.size + 1, 0, none⟩) (by show w2.heap.size + 1 < w2.heap.size + 1 + 1 + 1 + 1; omega) (.slice a3 (k + 1) cp3)).alloc _) ⟨w4.heap.size, 0, none⟩ 1 1 [.int .i32 (writerB (bops K S T n) x)] rfl rfl (by have := cell_one_new (w4.setCell ⟨w2.heap.size + 1, 0, none⟩ (.slice a3 (k + 1) cp3)) (.int .i32 (writerB (bops K S T n) x)) 21; simpa using this) (by simp [Value.oneCell']) (by unfold maxLen; omega) (by omega) (by simp; omega) ?_; intro v' w5 hown' hgrow hnil hat; obtain ⟨a4, cp4, hv4⟩ := own_shape hown'; subst hv4; have b3 := ((boxed_set_other b2 (a := ⟨w2.heap.size + 1, 0, none⟩) (by show w2.heap.size + 1 + 1 ≠ w2.heap.size + 1; omega) (.slice a3 (k + 1) cp3)).alloc (.cells #[.int .i32 (writerB (bops K S T n) x)] 21)).kept hgrow (own_lt_ne own2 (by omega)); have z0 := b3.cell; have z1 := b3.frozen; have HO5 : Hid _ := hown'; have HGr5 : Hid _ := hgrow; have HAt5 : Hid _ := hat; clear hown' hgrow hnil hat)))
      have hst := Gather.step HG.out hx (by omega) (by omega) (by omega) ⟨by omega, by omega, by omega⟩ ⟨by omega, by omega, by omega⟩ _ _ HGr.out HO.out HAt.out HGr5.out HO5.out HAt5.out
      have hnm : ¬ gathM (w2.heap.size + 1) (w2.heap.size + 1 + 1) a1 c1 a2 c2 k (w2.heap.size) := by
        rintro (h | h | h | h)
        · omega
        · omega
        · have := (own1.lt _ h).1; omega
        · have := (own2.lt _ h).1; omega
      exact ⟨_, ⟨a3, cp3, a4, cp4, rfl, hst.1, boxed_held HKb.out hst.2.1 hnm, by omega⟩, hst.2.1, hst.2.2⟩
  case done =>
    rintro M W ⟨a1, c1, a2, c2, rfl, hG, hkb, hle⟩ hM hK
    clear hM
    by_cases hlk : (readsB (bops K S T n) n).length < kk
    · have hlk' : ((readsB (bops K S T n) n).length : Int) < (kk : Int) := by omega
      have g0c := hG.gi.cell
      have w0c := hG.gw.cell
      have gl := hG.gi.lt
      have wl := hG.gw.lt
      have k0c := hkb.cell
      have kl := hkb.lt
      go_wp2_with fail
      refine (model17 (w.heap.size + 1 + 1) n K S T W hn hG.ops).mono ?_
      rintro e w4 ⟨b1, d1, b2, d2, rfl, hb4, hmd⟩
      have hs4 := hb4.size
      have g1c := (hb4.cell (p := ⟨w2.heap.size + 1, 0, none⟩) gl).trans g0c
      have w1c := (hb4.cell (p := ⟨w2.heap.size + 1 + 1, 0, none⟩) wl).trans w0c
      have k1c := (hb4.cell (p := ⟨w2.heap.size, 0, none⟩) kl).trans k0c
      go_wp2_with fail
      have own1 := own_below hG.own1 hb4 (Nat.le_refl _)
      have own2 := own_below hG.own2 hb4 (Nat.le_refl _)
      have hK4 : w4.heap[w3.heap.size]? = some (.deferred (some [])) := (hb4.block _ (Array.getElem?_eq_some_iff.1 hK).1).trans hK
      rw [hs3] at hK4
      have bel4 : Below w.heap.size w w4 := hG.bel.trans (hb4.mono hG.bel.size)
      have hg4 := hmd.own1
      have hw4 := hmd.own2
      clear hmd hG hK g0c w0c k0c
      have gl4 : w2.heap.size + 1 < w4.heap.size := by omega
      have wl4 : w2.heap.size + 1 + 1 < w4.heap.size := by omega
      go_loopw [15] (fun j wr => ∃ q : Nat, q ≤ (readsB (bops K S T n) n).length ∧ j = .int .i64 (q : Int) ∧ Below w4.heap.size w4 wr) (fun j _ => (readsB (bops K S T n) n).length - (intOf j).toNat)
      case atStart => exact ⟨0, Nat.zero_le _, rfl, Below.refl _ _⟩
      case round =>
        obtain ⟨q, hq, rfl, hbr⟩ := hrel
        have g2c := (hbr.cell (p := ⟨w2.heap.size + 1, 0, none⟩) gl4).trans g1c
        have w2c := (hbr.cell (p := ⟨w2.heap.size + 1 + 1, 0, none⟩) wl4).trans w1c
        by_cases hlt : q < (readsB (bops K S T n) n).length
        · have hltL : q < (readsB (bops K S T n) n).length := by omega
          obtain ⟨x, hx⟩ : ∃ x, (readsB (bops K S T n) n)[q]? = some x := ⟨_, List.getElem?_eq_getElem hltL⟩
          obtain ⟨s1, rfl, t1, u1⟩ := own_cell own1 (q := q) (u := .int .i64 (x : Int)) (gotI_at hlt hx)
          obtain ⟨s2, rfl, t2, u2⟩ := own_cell own2 (q := q) (u := .int .i32 (writerB (bops K S T n) x)) (gotW_at hlt hx)
          obtain ⟨s3, rfl, t3, u3⟩ := own_cell hg4 (q := q) (u := .int .i64 (x : Int)) (by simp [idxRow, hx])
          obtain ⟨s4, rfl, t4, u4⟩ := own_cell hw4 (q := q) (u := .int .i32 (writerB (bops K S T n) x)) (by simp [wsRow, hx])
          have v1 := (hbr.cell (p := ⟨s1, q, none⟩) t1).trans u1
          have v2 := (hbr.cell (p := ⟨s2, q, none⟩) t2).trans u2
          have v3 := (hbr.cell (p := ⟨s3, q, none⟩) t3).trans u3
          have v4 := (hbr.cell (p := ⟨s4, q, none⟩) t4).trans u4
          have hI0 : (0 : Int) ≤ (q : Int) := by omega
          have hI1 : (q : Int) < ((readsB (bops K S T n) n).length : Int) := by omega
          have hI2 : (q : Int) < ((readsB (bops K S T n) n).length : Int) := by omega
          clear u1 u2 u3 u4 g1c w1c
          go_wp2_with (go_quiet (fail))
          go_roundw
          case rel => exact ⟨q + 1, by omega, by go_num, below_drewN hbr _⟩
          case measure => simp [intOf]; omega
        · go_wp2_with fail
          refine ⟨by simp, .inl ⟨_, _, rfl, run_takeDeferred ((hbr.block _ (Array.getElem?_eq_some_iff.1 hK4).1).trans hK4), ?_⟩⟩
          exact ⟨_, results_tmp rfl _ _ _, rfl, below_putObj (bel4.trans (hbr.mono bel4.size)) (by omega) _⟩
    · have hke : kk = (readsB (bops K S T n) n).length := by omega
      subst hke
      have hlk' : ¬ ((readsB (bops K S T n) n).length : Int) < ((readsB (bops K S T n) n).length : Int) := by omega
      have g0c := hG.gi.cell
      have w0c := hG.gw.cell
      have gl := hG.gi.lt
      have wl := hG.gw.lt
      have k0c := hkb.cell
      have kl := hkb.lt
      go_wp2_with fail
      refine (model17 (w.heap.size + 1 + 1) n K S T W hn hG.ops).mono ?_
      rintro e w4 ⟨b1, d1, b2, d2, rfl, hb4, hmd⟩
      have hs4 := hb4.size
      have g1c := (hb4.cell (p := ⟨w2.heap.size + 1, 0, none⟩) gl).trans g0c
      have w1c := (hb4.cell (p := ⟨w2.heap.size + 1 + 1, 0, none⟩) wl).trans w0c
      have k1c := (hb4.cell (p := ⟨w2.heap.size, 0, none⟩) kl).trans k0c
      go_wp2_with fail
      have own1 := own_below hG.own1 hb4 (Nat.le_refl _)
      have own2 := own_below hG.own2 hb4 (Nat.le_refl _)
      have hK4 : w4.heap[w3.heap.size]? = some (.deferred (some [])) := (hb4.block _ (Array.getElem?_eq_some_iff.1 hK).1).trans hK
      rw [hs3] at hK4
      have bel4 : Below w.heap.size w w4 := hG.bel.trans (hb4.mono hG.bel.size)
      have hg4 := hmd.own1
      have hw4 := hmd.own2
      clear hmd hG hK g0c w0c k0c
      have gl4 : w2.heap.size + 1 < w4.heap.size := by omega
      have wl4 : w2.heap.size + 1 + 1 < w4.heap.size := by omega
      go_loopw [15] (fun j wr => ∃ q : Nat, q ≤ (readsB (bops K S T n) n).length ∧ j = .int .i64 (q : Int) ∧ Below w4.heap.size w4 wr) (fun j _ => (readsB (bops K S T n) n).length - (intOf j).toNat)
      case atStart => exact ⟨0, Nat.zero_le _, rfl, Below.refl _ _⟩
      case round =>
        obtain ⟨q, hq, rfl, hbr⟩ := hrel
        have g2c := (hbr.cell (p := ⟨w2.heap.size + 1, 0, none⟩) gl4).trans g1c
        have w2c := (hbr.cell (p := ⟨w2.heap.size + 1 + 1, 0, none⟩) wl4).trans w1c
        by_cases hlt : q < (readsB (bops K S T n) n).length
        · have hltL : q < (readsB (bops K S T n) n).length := by omega
          obtain ⟨x, hx⟩ : ∃ x, (readsB (bops K S T n) n)[q]? = some x := ⟨_, List.getElem?_eq_getElem hltL⟩
          obtain ⟨s1, rfl, t1, u1⟩ := own_cell own1 (q := q) (u := .int .i64 (x : Int)) (gotI_at hlt hx)
          obtain ⟨s2, rfl, t2, u2⟩ := own_cell own2 (q := q) (u := .int .i32 (writerB (bops K S T n) x)) (gotW_at hlt hx)
          obtain ⟨s3, rfl, t3, u3⟩ := own_cell hg4 (q := q) (u := .int .i64 (x : Int)) (by simp [idxRow, hx])
          obtain ⟨s4, rfl, t4, u4⟩ := own_cell hw4 (q := q) (u := .int .i32 (writerB (bops K S T n) x)) (by simp [wsRow, hx])
          have v1 := (hbr.cell (p := ⟨s1, q, none⟩) t1).trans u1
          have v2 := (hbr.cell (p := ⟨s2, q, none⟩) t2).trans u2
          have v3 := (hbr.cell (p := ⟨s3, q, none⟩) t3).trans u3
          have v4 := (hbr.cell (p := ⟨s4, q, none⟩) t4).trans u4
          have hI0 : (0 : Int) ≤ (q : Int) := by omega
          have hI1 : (q : Int) < ((readsB (bops K S T n) n).length : Int) := by omega
          have hI2 : (q : Int) < ((readsB (bops K S T n) n).length : Int) := by omega
          clear u1 u2 u3 u4 g1c w1c
          go_wp2_with (go_quiet (fail))
          go_roundw
          case rel => exact ⟨q + 1, by omega, by go_num, below_drewN hbr _⟩
          case measure => simp [intOf]; omega
        · go_wp2_with fail
          refine ⟨by simp, .inl ⟨_, _, rfl, run_takeDeferred ((hbr.block _ (Array.getElem?_eq_some_iff.1 hK4).1).trans hK4), ?_⟩⟩
          exact ⟨_, results_tmp rfl _ _ _, rfl, below_putObj (bel4.trans (hbr.mono bel4.size)) (by omega) _⟩
  case stop =>
    rintro c W ⟨rfl, hkL, a1, c1, a2, c2, hG, hkb⟩ hK
    have hlk' : ¬ ((readsB (bops K S T n) n).length : Int) < (kk : Int) := by omega
    refine wpIn_wide.2 ?_
    have g0c := hG.gi.cell
    have w0c := hG.gw.cell
    have gl := hG.gi.lt
    have wl := hG.gw.lt
    have k0c := hkb.cell
    have kl := hkb.lt
    go_wp2_with fail
    refine (model17 (w.heap.size + 1 + 1) n K S T W hn hG.ops).mono ?_
    rintro e w4 ⟨b1, d1, b2, d2, rfl, hb4, hmd⟩
    have hs4 := hb4.size
    have g1c := (hb4.cell (p := ⟨w2.heap.size + 1, 0, none⟩) gl).trans g0c
    have w1c := (hb4.cell (p := ⟨w2.heap.size + 1 + 1, 0, none⟩) wl).trans w0c
    have k1c := (hb4.cell (p := ⟨w2.heap.size, 0, none⟩) kl).trans k0c
    go_wp2_with fail
    have own1 := own_below hG.own1 hb4 (Nat.le_refl _)
    have own2 := own_below hG.own2 hb4 (Nat.le_refl _)
    have hK4 : w4.heap[w3.heap.size]? = some (.deferred (some [])) := (hb4.block _ (Array.getElem?_eq_some_iff.1 hK).1).trans hK
    rw [hs3] at hK4
    have bel4 : Below w.heap.size w w4 := hG.bel.trans (hb4.mono hG.bel.size)
    have hg4 := hmd.own1
    have hw4 := hmd.own2
    clear hmd hG hK g0c w0c k0c
    have gl4 : w2.heap.size + 1 < w4.heap.size := by omega
    have wl4 : w2.heap.size + 1 + 1 < w4.heap.size := by omega
    go_loopw [15] (fun j wr => ∃ q : Nat, q ≤ kk ∧ j = .int .i64 (q : Int) ∧ Below w4.heap.size w4 wr) (fun j _ => kk - (intOf j).toNat)
    case atStart => exact ⟨0, Nat.zero_le _, rfl, Below.refl _ _⟩
    case round =>
      obtain ⟨q, hq, rfl, hbr⟩ := hrel
      have g2c := (hbr.cell (p := ⟨w2.heap.size + 1, 0, none⟩) gl4).trans g1c
      have w2c := (hbr.cell (p := ⟨w2.heap.size + 1 + 1, 0, none⟩) wl4).trans w1c
      by_cases hlt : q < kk
      · have hltL : q < (readsB (bops K S T n) n).length := by omega
        obtain ⟨x, hx⟩ : ∃ x, (readsB (bops K S T n) n)[q]? = some x := ⟨_, List.getElem?_eq_getElem hltL⟩
        obtain ⟨s1, rfl, t1, u1⟩ := own_cell own1 (q := q) (u := .int .i64 (x : Int)) (gotI_at hlt hx)
        obtain ⟨s2, rfl, t2, u2⟩ := own_cell own2 (q := q) (u := .int .i32 (writerB (bops K S T n) x)) (gotW_at hlt hx)
        obtain ⟨s3, rfl, t3, u3⟩ := own_cell hg4 (q := q) (u := .int .i64 (x : Int)) (by simp [idxRow, hx])
        obtain ⟨s4, rfl, t4, u4⟩ := own_cell hw4 (q := q) (u := .int .i32 (writerB (bops K S T n) x)) (by simp [wsRow, hx])
        have v1 := (hbr.cell (p := ⟨s1, q, none⟩) t1).trans u1
        have v2 := (hbr.cell (p := ⟨s2, q, none⟩) t2).trans u2
        have v3 := (hbr.cell (p := ⟨s3, q, none⟩) t3).trans u3
        have v4 := (hbr.cell (p := ⟨s4, q, none⟩) t4).trans u4
        have hI0 : (0 : Int) ≤ (q : Int) := by omega
        have hI1 : (q : Int) < (kk : Int) := by omega
        have hI2 : (q : Int) < ((readsB (bops K S T n) n).length : Int) := by omega
        clear u1 u2 u3 u4 g1c w1c
        go_wp2_with (go_quiet (fail))
        go_roundw
        case rel => exact ⟨q + 1, by omega, by go_num, below_drewN hbr _⟩
        case measure => simp [intOf]; omega
      · go_wp2_with fail
        refine ⟨by simp, .inl ⟨_, _, rfl, run_takeDeferred ((hbr.block _ (Array.getElem?_eq_some_iff.1 hK4).1).trans hK4), ?_⟩⟩
        exact ⟨_, results_tmp rfl _ _ _, rfl, below_putObj (bel4.trans (hbr.mono bel4.size)) (by omega) _⟩

set_option maxHeartbeats 400000 in
theorem stops6_big (a0 : Option Addr) (n cap : Nat) (s : Int) (w : World) (hn : 256 < n) : Calls Yba.prog 6 #[.slice a0 n cap, .int .u8 s] w fun e w' => e = .returned (.bool true) ∧ w' = w := by
  go_enter Yba.func6, Yba.ntmps6
  go_wp2_with fail
  go_ret
  exact ⟨rfl, rfl⟩

end Go.Proofs.Ybulkbik
