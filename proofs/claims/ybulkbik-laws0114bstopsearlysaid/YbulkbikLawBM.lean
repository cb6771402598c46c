import Derived.Test.YbulkbikGather
namespace Go.Proofs.Ybulkbik
attribute [local go_sem ↓] Go.wp_at_zero Go.wp_at_succ
attribute [local go_sem] Oper.semAt_some
open Go.RowKit Go.Maps

/-- What 'zzs0114bbuild' gives back. -/
def BBuilt (v : Value) (n : Nat) (K : Nat → ByteArray) (T : Nat → Int) (S : Nat → ByteArray) (w : World) : Prop :=
  Calls Yba.prog 14 #[v] w fun e w' => e = .returned (.slice (some ⟨w.heap.size + 1 + 1, 0, none⟩) n n) ∧ Below w.heap.size w w' ∧ w'.rowIs (w.heap.size + 1 + 1) 76 (n * 3) (opCell K T S)

theorem own_cell {w : World} {base e : Nat} {a : Option Addr} {m c : Nat} {xs : List Value} {q : Nat} {u : Value} (h : w.ownsRow base e 1 (.slice a m c) m xs) (hq : xs[q]? = some u) : ∃ gs, a = some ⟨gs, 0, none⟩ ∧ gs < w.heap.size ∧ w.cell? ⟨gs, q, none⟩ = some u := by
  have hl := h.1
  have hql : q < xs.length := (List.getElem?_eq_some_iff.1 hq).1
  rcases h.2 with ⟨e, h0⟩ | ⟨g, cap, cur, e, hb, hg, r⟩
  · omega
  · simp at e
    obtain ⟨rfl, rfl⟩ := e
    refine ⟨g, rfl, (h.lt g rfl).2, ?_⟩
    have := h.cells (g := g) rfl q u hq
    rwa [Addr.add_lit, Nat.zero_add] at this

theorem below_putObj {B : Nat} {w W : World} (h : Below B w W) {l : Nat} (hl : B ≤ l) (o : Obj) : Below B w (W.putObj l o) :=
  ⟨h.os, h.tape, h.output, by have := h.size; simpa using this, fun k hk => (World.putObj_heap_other (by omega)).trans (h.block k hk)⟩

set_option maxRecDepth 100000 in
set_option maxHeartbeats 4000000 in
theorem matches5 (a0 : Option Addr) (n cap : Nat) (K S : Nat → ByteArray) (T : Nat → Int) (w : World) (hn : n ≤ 256) (hbb : BBuilt (.slice a0 n cap) n K T S w) (hS : ∀ i, i < n → (S i).size ≤ maxLen) (hT : ∀ i, i < n → -2147483648 ≤ T i ∧ T i ≤ 2147483647) :
    Calls Yba.prog 5 #[.slice a0 n cap] w fun e w' => e = .returned (.bool true) ∧ Below w.heap.size w w' := by
  refine callsIn_wide.1 (callsIn_of_wp_marks (n := 3) Yba.func5 rfl trivial (wpIn_wide.2 ?_))
  simp only [Yba.ntmps5, List.size_toArray, List.length_cons, List.length_nil, Nat.reduceAdd, Nat.reduceSub, Array.replicate_succ, Array.replicate_zero, List.push_toArray, List.append_toArray, List.nil_append, List.cons_append]
  go_wp2_with fail
  refine Calls.mono hbb ?_
  rintro e w1 ⟨rfl, hb1, hr1⟩
  have hl1 := hr1.lt
  go_wp2_with fail
  refine (newInput15 (w.heap.size + 1 + 1) n K S T w1 hn hr1 hT).mono ?_
  rintro e w2 ⟨ib, g0, ofb, eb, f, rfl, hb2, hin, hib, hofb, heb, hd1, hd2⟩
  go_wp2_with (first | (go_at_call 16; refine (reads16 ib _).mono ?_; rintro e w' ⟨rfl, rfl⟩))
  have hobl : w.heap.size + 1 + 1 < w2.heap.size := by have := hb2.size; omega
  have ops2 := hr1.of_block (hb2.block _ hl1)
  have bel2 : Below w.heap.size w w2 := hb1.trans (hb2.mono hb1.size)
  have hi1 := hin.inp.lt
  have hi2 := hin.of.lt
  have hi3 := hin.ends.lt
  have hin3 : InpAt K T n (w.heap.size + 1 + 1) ib g0 ofb eb none f (((w2.alloc (.cells #[.slice none 0 0] 53)).alloc (.cells #[.slice none 0 0] 43)).alloc (.cells #[.pointer (some ⟨ib, 0, none⟩)] 32)) :=
    ⟨((hin.inp.alloc _).alloc _).alloc _, ((hin.of.alloc _).alloc _).alloc _, ((hin.ends.alloc _).alloc _).alloc _, hin.ab⟩
  have ops3 := ((ops2.alloc (.cells #[.slice none 0 0] 53)).alloc (.cells #[.slice none 0 0] 43)).alloc (.cells #[.pointer (some ⟨ib, 0, none⟩)] 32)
  have box3 := World.rowIs_alloc ((w2.alloc (.cells #[.slice none 0 0] 53)).alloc (.cells #[.slice none 0 0] 43)) #[.pointer (some ⟨ib, 0, none⟩)] 32 (fun _ => .pointer (some ⟨ib, 0, none⟩)) (fun i hi => by
      match i, hi with
      | 0, _ => rfl)
  have gi3 : Boxed (((w2.alloc (.cells #[.slice none 0 0] 53)).alloc (.cells #[.slice none 0 0] 43)).alloc (.cells #[.pointer (some ⟨ib, 0, none⟩)] 32)) w2.heap.size 53 (.slice none 0 0) := ((Boxed.new w2 53 (.slice none 0 0)).alloc _).alloc _
  have gw3 : Boxed (((w2.alloc (.cells #[.slice none 0 0] 53)).alloc (.cells #[.slice none 0 0] 43)).alloc (.cells #[.pointer (some ⟨ib, 0, none⟩)] 32)) (w2.heap.size + 1) 43 (.slice none 0 0) := by
    have := (Boxed.new (w2.alloc (.cells #[.slice none 0 0] 53)) 43 (.slice none 0 0)).alloc (.cells #[.pointer (some ⟨ib, 0, none⟩)] 32)
    simpa using this
  have bel3 := ((bel2.alloc bel2.size (.cells #[.slice none 0 0] 53)).alloc (by have := bel2.size; simp; omega) (.cells #[.slice none 0 0] 43)).alloc (by have := bel2.size; simp; omega) (.cells #[.pointer (some ⟨ib, 0, none⟩)] 32)
  simp only [World.size_alloc] at box3
  have hs3 : (((w2.alloc (.cells #[.slice none 0 0] 53)).alloc (.cells #[.slice none 0 0] 43)).alloc (.cells #[.pointer (some ⟨ib, 0, none⟩)] 32)).heap.size = w2.heap.size + 1 + 1 + 1 := by simp
  have hw2 := bel2.size
  obtain ⟨i3, hi3', hz30, hz31, hz32⟩ := info_parts info3
  obtain ⟨i21, hi21', hz210, hz211, hz212⟩ := info_parts info21
  clear hin ops2 hr1 hb1 hbb
  generalize ((w2.alloc (.cells #[.slice none 0 0] 53)).alloc (.cells #[.slice none 0 0] 43)).alloc (.cells #[.pointer (some ⟨ib, 0, none⟩)] 32) = w3 at *
  have hrl := readsB_le (bops K S T n) n
  refine wpIn_wide.1 (wpIn_rangeFunc_M (n := 3) rfl (fun h => by simp [Fence.wide] at h) (gf := 27) (lb := #[.pointer (some ⟨w2.heap.size + 1 + 1, 0, none⟩)]) rfl trivial (enters_of Yba.func27 (by kernel_rfl) rfl)
    (iter27 (w.heap.size + 1 + 1) ib ofb eb g0 (w2.heap.size + 1 + 1) n K S T f w3 2 hn hin3 ops3 hS box3 ⟨by omega, by omega, by omega, by omega⟩) ?hR (fun _ => rfl)
    (fun k M W => ∃ a1 c1 a2 c2, M = gathM w2.heap.size (w2.heap.size + 1) a1 c1 a2 c2 k ∧ Gather K S T n (w.heap.size + 1 + 1) w2.heap.size (w2.heap.size + 1) (w2.heap.size + 1 + 1 + 1) w a1 c1 a2 c2 k W) (fun _ _ => False)
    (gathM w2.heap.size (w2.heap.size + 1) none 0 none 0 0) ?hM0 ?hI ?hIb (fun _ _ _ _ h _ => h) ?h0
    (fun x => { tmps := #[Value.slice a0 n cap, undef, Value.bool false, Value.slice (some ⟨w.heap.size + 1 + 1, 0, none⟩) n n, Value.pointer (some ⟨ib, 0, none⟩), Value.pointer (some ⟨w2.heap.size, 0, none⟩), Value.pointer (some ⟨w2.heap.size + 1, 0, none⟩), Value.int .i64 (x : Int), Value.int .i32 (writerB (bops K S T n) x), undef, undef, undef, Value.slice a0 n cap, Value.int IntKind.i64 (n : Int), Value.bool (decide ((256 : Int) < (n : Int))), Value.slice a0 n cap, Value.slice (some ⟨w.heap.size + 1 + 1, 0, none⟩) n n, Value.slice (some ⟨w.heap.size + 1 + 1, 0, none⟩) n n, Value.pointer (some ⟨ib, 0, none⟩), Value.pointer (some ⟨ib, 0, none⟩), Value.func (Fn.func 27) #[] #[Value.pointer (some ⟨w2.heap.size + 1 + 1, 0, none⟩)], Value.int .i64 (x : Int), Value.int .i32 (writerB (bops K S T n) x), undef, undef, undef, undef, undef, undef, undef, undef, undef, undef, undef, undef, undef, undef, undef, undef, undef, undef, undef, undef, undef, undef, undef, undef, undef, undef, undef, undef, undef, undef, undef, undef, undef, undef, undef, undef, undef, undef, undef, undef, undef, undef, undef, undef], defers := [] }) ?assign ?body ?done (fun _ _ h _ => h.elim))
  case hR =>
    rintro b (e | e | e | e | e) <;> omega
  case hM0 =>
    rintro b (e | e | e | e)
    · refine ⟨by omega, ?_⟩
      rintro (h | h | h | h | h) <;> omega
    · refine ⟨by omega, ?_⟩
      rintro (h | h | h | h | h) <;> omega
    · simp [Value.ownBlock] at e
    · simp [Value.ownBlock] at e
  case hI =>
    rintro k M A B ⟨a1, c1, a2, c2, rfl, hG⟩ ht
    exact ⟨a1, c1, a2, c2, rfl, hG.turn ht ⟨by omega, by omega⟩ (by omega) (by omega)⟩
  case hIb =>
    rintro k M A ⟨a1, c1, a2, c2, rfl, hG⟩
    exact hG.mlt
  case h0 =>
    refine ⟨none, 0, none, 0, rfl, gi3, gw3, ?_, ?_, ops3, bel3, by omega⟩
    · have := World.ownsRow_nil w3 (w2.heap.size + 1 + 1 + 1) 3 1
      simpa [gotI] using this
    · have := World.ownsRow_nil w3 (w2.heap.size + 1 + 1 + 1) 21 1
      simpa [gotW] using this
  case assign =>
    intro l x W K' hK'
    unfold encB
    gi_wp2
    exact hK'
  case body =>
    rintro l k x M W hx ⟨a1, c1, a2, c2, rfl, hG⟩
    have hkl : k < 256 := by have := (List.getElem?_eq_some_iff.1 hx).1; omega
    have own1 := hG.own1
    have own2 := hG.own2
    have hsz := hG.sz
    have hap := own_apart own2 own1 (by decide)
    have g0c := hG.gi.cell
    have g0f := hG.gi.frozen
    have HG : Hid (Gather K S T n (w.heap.size + 1 + 1) w2.heap.size (w2.heap.size + 1) (w2.heap.size + 1 + 1 + 1) w a1 c1 a2 c2 k W) := hG
    have gl := hG.gi.lt
    have wl := hG.gw.lt
    clear hG
    gi_wp2_with (first
      | (gi_at_builtin; (refine wpListIn_append_own_at _ rfl _ _ 53 rfl (w2.heap.size + 1 + 1 + 1) 3 i3 (.int .i64 0) 1 8 Yba.underlying53 hi3' hz30 hz31 hz32 rfl (by decide) _ _ _ rfl (own1.alloc _) ⟨W.heap.size, 0, none⟩ 1 1 [.int .i64 (x : Int)] rfl rfl (cell_one_new _ _ _) (by simp [Value.oneCell']) (by unfold maxLen; omega) (by omega) (by simp; omega) ?_; intro v' w4 hown' hgrow hnil hat; obtain ⟨a3, cp3, hv3⟩ := own_shape hown'; subst hv3; have own3 := (own2.alloc (.cells #[.int .i64 (x : Int)] 3)).kept hgrow hap; have b1 := (HG.out.gi.alloc (.cells #[.int .i64 (x : Int)] 3)).kept hgrow (own_lt_ne own1 (by omega)); have b2 := (HG.out.gw.alloc (.cells #[.int .i64 (x : Int)] 3)).kept hgrow (own_lt_ne own1 (by omega)); have hs4 : W.heap.size ≤ w4.heap.size := Nat.le_trans (by simp) hgrow.size; have y0 := b1.cell; have y1 := b1.frozen; have y2 := b2.cell; have y3 := b2.frozen; have HO : Hid _ := hown'; have HGr : Hid _ := hgrow; have HAt : Hid _ := hat; clear hown' hgrow hnil hat))
      | (gi_at_builtin; (refine wpListIn_append_own_at _ rfl _ _ 43 rfl (w2.heap.size + 1 + 1 + 1) 21 i21 (.int .i32 0) 1 4 Yba.underlying43 hi21' hz210 hz211 hz212 rfl (by decide) _ _ _ rfl ((own_set_other own3 (a := ⟨w2.heap.size, 0, none⟩) (by show w2.heap.size < w2.heap.size + 1 + 1 + 1; omega) (.slice a3 (k + 1) cp3)).alloc _) ⟨w4.heap.size, 0, none⟩ 1 1 [.int .i32 (writerB (bops K S T n) x)] rfl rfl (by have := cell_one_new (w4.setCell ⟨w2.heap.size, 0, none⟩ (.slice a3 (k + 1) cp3)) (.int .i32 (writerB (bops K S T n) x)) 21; simpa using this) (by simp [Value.oneCell']) (by unfold maxLen; omega) (by omega) (by simp; omega) ?_; intro v' w5 hown' hgrow hnil hat; obtain ⟨a4, cp4, hv4⟩ := own_shape hown'; subst hv4; have b3 := ((boxed_set_other b2 (a := ⟨w2.heap.size, 0, none⟩) (by show w2.heap.size + 1 ≠ w2.heap.size; omega) (.slice a3 (k + 1) cp3)).alloc (.cells #[.int .i32 (writerB (bops K S T n) x)] 21)).kept hgrow (own_lt_ne own2 (by omega)); have z0 := b3.cell; have z1 := b3.frozen; have HO5 : Hid _ := hown'; have HGr5 : Hid _ := hgrow; have HAt5 : Hid _ := hat; clear hown' hgrow hnil hat)))
    have hst := Gather.step HG.out hx (by omega) (by omega) (by omega) ⟨by omega, by omega, by omega⟩ ⟨by omega, by omega, by omega⟩ _ _ HGr.out HO.out HAt.out HGr5.out HO5.out HAt5.out
    exact ⟨_, ⟨a3, cp3, a4, cp4, rfl, hst.1⟩, hst.2.1, hst.2.2⟩
  case done =>
    rintro M W ⟨a1, c1, a2, c2, rfl, hG⟩ hM hK
    have g0c := hG.gi.cell
    have w0c := hG.gw.cell
    have gl := hG.gi.lt
    have wl := hG.gw.lt
    go_wp2_with fail
    refine (model17 (w.heap.size + 1 + 1) n K S T W hn hG.ops).mono ?_
    rintro e w4 ⟨b1, d1, b2, d2, rfl, hb4, hmd⟩
    have hs4 := hb4.size
    have g1c := (hb4.cell (p := ⟨w2.heap.size, 0, none⟩) gl).trans g0c
    have w1c := (hb4.cell (p := ⟨w2.heap.size + 1, 0, none⟩) wl).trans w0c
    go_wp2_with fail
    have own1 : w4.ownsRow (w2.heap.size + 1 + 1 + 1) 3 1 (.slice a1 (readsB (bops K S T n) n).length c1) (readsB (bops K S T n) n).length (gotI (bops K S T n) n (readsB (bops K S T n) n).length) := own_below hG.own1 hb4 (Nat.le_refl _)
    have own2 : w4.ownsRow (w2.heap.size + 1 + 1 + 1) 21 1 (.slice a2 (readsB (bops K S T n) n).length c2) (readsB (bops K S T n) n).length (gotW (bops K S T n) n (readsB (bops K S T n) n).length) := own_below hG.own2 hb4 (Nat.le_refl _)
    have hK4 : w4.heap[w3.heap.size]? = some (.deferred (some [])) := (hb4.block _ (Array.getElem?_eq_some_iff.1 hK).1).trans hK
    rw [hs3] at hK4
    have bel4 : Below w.heap.size w w4 := hG.bel.trans (hb4.mono hG.bel.size)
    have hg4 := hmd.own1
    have hw4 := hmd.own2
    clear hmd hG hM hK g0c w0c
    have gl4 : w2.heap.size < w4.heap.size := by omega
    have wl4 : w2.heap.size + 1 < w4.heap.size := by omega
    go_loopw [11] (fun j wr => ∃ q : Nat, q ≤ (readsB (bops K S T n) n).length ∧ j = .int .i64 (q : Int) ∧ Below w4.heap.size w4 wr) (fun j _ => (readsB (bops K S T n) n).length - (intOf j).toNat)
    case atStart => exact ⟨0, Nat.zero_le _, rfl, Below.refl _ _⟩
    case round =>
      obtain ⟨q, hq, rfl, hbr⟩ := hrel
      have g2c := (hbr.cell (p := ⟨w2.heap.size, 0, none⟩) gl4).trans g1c
      have w2c := (hbr.cell (p := ⟨w2.heap.size + 1, 0, none⟩) wl4).trans w1c
      by_cases hlt : q < (readsB (bops K S T n) n).length
      · obtain ⟨x, hx⟩ : ∃ x, (readsB (bops K S T n) n)[q]? = some x := ⟨_, List.getElem?_eq_getElem hlt⟩
        obtain ⟨s1, rfl, t1, u1⟩ := own_cell own1 (q := q) (u := .int .i64 (x : Int)) (by simp [gotI, hx])
        obtain ⟨s2, rfl, t2, u2⟩ := own_cell own2 (q := q) (u := .int .i32 (writerB (bops K S T n) x)) (by simp [gotW, hx])
        obtain ⟨s3, rfl, t3, u3⟩ := own_cell hg4 (q := q) (u := .int .i64 (x : Int)) (by simp [idxRow, hx])
        obtain ⟨s4, rfl, t4, u4⟩ := own_cell hw4 (q := q) (u := .int .i32 (writerB (bops K S T n) x)) (by simp [wsRow, hx])
        have v1 := (hbr.cell (p := ⟨s1, q, none⟩) t1).trans u1
        have v2 := (hbr.cell (p := ⟨s2, q, none⟩) t2).trans u2
        have v3 := (hbr.cell (p := ⟨s3, q, none⟩) t3).trans u3
        have v4 := (hbr.cell (p := ⟨s4, q, none⟩) t4).trans u4
        have hI0 : (0 : Int) ≤ (q : Int) := by omega
        have hI1 : (q : Int) < ((readsB (bops K S T n) n).length : Int) := by omega
        clear u1 u2 u3 u4 g1c w1c
        go_wp2_with (go_quiet (fail))
        go_roundw
        case rel => exact ⟨q + 1, by omega, by go_num, below_drewN hbr _⟩
        case measure => simp [intOf]; omega
      · go_wp2_with fail
        refine ⟨by simp, .inl ⟨_, _, rfl, run_takeDeferred ((hbr.block _ (Array.getElem?_eq_some_iff.1 hK4).1).trans hK4), ?_⟩⟩
        exact ⟨_, results_tmp rfl _ _ _, rfl, below_putObj (bel4.trans (hbr.mono bel4.size)) (by omega) _⟩

set_option maxHeartbeats 400000 in
theorem matches5_big (a0 : Option Addr) (n cap : Nat) (w : World) (hn : 256 < n) : Calls Yba.prog 5 #[.slice a0 n cap] w fun e w' => e = .returned (.bool true) ∧ w' = w := by
  go_enter Yba.func5, Yba.ntmps5
  go_wp2_with fail
  go_ret
  exact ⟨rfl, rfl⟩

set_option maxRecDepth 100000 in
set_option maxHeartbeats 1000000 in
theorem bbuild_zero (a : Option Addr) (cap : Nat) (w : World) (K : Nat → ByteArray) (T : Nat → Int) (S : Nat → ByteArray) : BBuilt (.slice a 0 cap) 0 K T S w := by
  have hmk := make50 0 (by omega)
  obtain ⟨M, hM⟩ : ∃ M, madeCells #[.string ⟨#[]⟩, .int .i32 0, .string ⟨#[]⟩] (0 * 3) = M := ⟨_, rfl⟩
  have hMs : M.size = 0 := by rw [← hM]; simp [madeCells]
  rw [hM] at hmk
  clear hM
  simp only [Int.natCast_zero] at hmk
  go_enter Yba.func14, Yba.ntmps14
  go_wp2
  refine wp_loop_rounds 1 ?_
  rw [rounds_succ]
  go_wp2
  go_ret
  obtain ⟨s1, _, _, s4⟩ := bstart w M (fun _ => undef) (fun i hi => by omega)
  refine ⟨rfl, s1, ?_⟩
  rw [hMs] at s4
  exact s4.congr (fun i hi => absurd hi (Nat.not_lt_zero _))

end Go.Proofs.Ybulkbik
