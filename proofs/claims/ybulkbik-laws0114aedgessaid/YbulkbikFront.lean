import Derived.Test.YbulkbikPlainA
import Derived.Test.YbulkbikGather
import Derived.Test.YbulkbikBuildA2
/-! frontier: reset (47), follows (48), add (49). -/
namespace Go.Proofs.Ybulkbik
attribute [local go_sem ↓] Go.wp_at_zero Go.wp_at_succ
attribute [local go_sem] Oper.semAt_some
open Go.RowKit Go.Maps

def frCell (w : Int) (v : Value) (i : Nat) : Value := if i = 0 then .int .i32 w else v

/-- The frontier f in memory: its two cells at fb, its readers in a row of its own. -/
structure FrAt (fb base : Nat) (f : Fr) (a : Option Addr) (c : Nat) (W : World) : Prop where
  row : W.rowIs fb 127 2 (frCell f.wr (.slice a f.rs.length c))
  own : W.ownsRow base 21 1 (.slice a f.rs.length c) f.rs.length (f.rs.map fun j => .int .i32 ((j : Nat) : Int))
  lt : fb < base

/-- The frontier's blocks. -/
def frBlk (fb : Nat) (a : Option Addr) (b : Nat) : Prop := b = fb ∨ ∃ x, a = some x ∧ x.block = b

theorem Held.set {S : Nat → Prop} {U W : World} (h : Held S U W) {a : Addr} (v : Value) (ha : S a.block) : Held S U (W.setCell a v) :=
  ⟨h.os, h.tape, h.output, by simpa using h.size, fun b hb hs => (Below.heap_setCell _ _ _ b (fun e => hs (by rw [e]; exact ha))).trans (h.held b hb hs)⟩
theorem Held.draw {S : Nat → Prop} {U W : World} (h : Held S U W) (q : Nat) : Held S U (W.drewN q) := ⟨h.os, h.tape, h.output, h.size, h.held⟩
theorem Held.same {S : Nat → Prop} (U : World) : Held S U U := ⟨rfl, rfl, rfl, Nat.le_refl _, fun _ _ _ => rfl⟩

theorem own_cut {w : World} {base e : Nat} {a : Option Addr} {n c : Nat} {xs : List Value} (h : w.ownsRow base e 1 (.slice a n c) n xs) : w.ownsRow base e 1 (.slice a 0 c) 0 [] := by
  refine ⟨by simp, ?_⟩
  rcases h.2 with ⟨e, h0⟩ | ⟨g, cap, cur, e, hb, hg, h1, h2, h3, h4⟩
  · left; simp at e; exact ⟨by rw [e.1, e.2.2], rfl⟩
  · right
    simp at e
    exact ⟨g, cap, cur, by rw [e.1, e.2], hb, hg, by omega, h2, h3, by simp⟩

theorem own_addr {w : World} {base e : Nat} {a : Option Addr} {n c : Nat} {xs : List Value} (h : w.ownsRow base e 1 (.slice a n c) n xs) : (a = none ∧ n = 0 ∧ c = 0) ∨ ∃ g, a = some ⟨g, 0, none⟩ ∧ base ≤ g ∧ g < w.heap.size ∧ n ≤ c ∧ c ≤ maxLen := by
  rcases h.2 with ⟨e, h0⟩ | ⟨g, cap, cur, e, hb, hg, h1, h2, h3, h4⟩
  · left; simp at e; exact ⟨e.1, h0, e.2.2⟩
  · right
    simp at e
    exact ⟨g, e.1, hb, (Array.getElem?_eq_some_iff.1 hg).1, by omega, by omega⟩

/-- The two stores that set the frontier's cells, the readers struck. -/
theorem FrAt.cut {fb base : Nat} {f : Fr} {a : Option Addr} {c : Nat} {W : World} (h : FrAt fb base f a c W) (q : Nat) (x : Int) :
    FrAt fb base ⟨x, []⟩ a c (((W.drewN q).setCell ⟨fb, 0, none⟩ (.int .i32 x)).setCell ⟨fb, 1, none⟩ (.slice a 0 c)) := by
  have hr : (W.drewN q).rowIs fb 127 2 (frCell f.wr (.slice a f.rs.length c)) := h.row
  have ho : (W.drewN q).ownsRow base 21 1 (.slice a f.rs.length c) f.rs.length (f.rs.map fun j => .int .i32 ((j : Nat) : Int)) := h.own
  refine ⟨((hr.set 0 _).set 1 _).congr (fun i hi => ?_), own_set_other (own_set_other (own_cut ho) (by simpa using h.lt) _) (by simpa using h.lt) _, h.lt⟩
  match i, hi with
  | 0, _ => rfl
  | 1, _ => rfl

set_option maxHeartbeats 2000000 in
theorem reset47 (fb base : Nat) (f : Fr) (a : Option Addr) (c : Nat) (W : World) (h : FrAt fb base f a c W) :
    Calls Yba.prog 47 #[.pointer (some ⟨fb, 0, none⟩)] W fun e w' => e = .returned (.tuple #[]) ∧ FrAt fb base Fr.zero a c w' ∧ Held (frBlk fb a) W w' := by
  have c0 := h.row.cell (i := 0) (by omega)
  have c1 := h.row.cell (i := 1) (by omega)
  have f0 := h.row.frozen 0
  have f1 := h.row.frozen 1
  have hl := h.row.lt
  rw [show frCell f.wr (.slice a f.rs.length c) 0 = .int .i32 f.wr from rfl] at c0
  rw [show frCell f.wr (.slice a f.rs.length c) 1 = .slice a f.rs.length c from rfl] at c1
  have hh : ∀ q x v, Held (frBlk fb a) W (((W.drewN q).setCell ⟨fb, 0, none⟩ x).setCell ⟨fb, 1, none⟩ v) := fun q x v => (((Held.same W).draw q).set (a := ⟨fb, 0, none⟩) x (.inl rfl)).set (a := ⟨fb, 1, none⟩) v (.inl rfl)
  have HH : Hid _ := hh
  have HF : Hid (FrAt fb base f a c W) := h
  have hown := own_addr h.own
  obtain ⟨r, hr⟩ : ∃ r, r = f.rs.length := ⟨_, rfl⟩
  rw [← hr] at c1 hown
  clear h hr hh
  rcases hown with ⟨rfl, rfl, rfl⟩ | ⟨g, rfl, h1, h2, h3, h4⟩
  · go_enter Yba.func47, Yba.ntmps47
    go_wp2_with fail
    go_region
    all_goals go_wp2_with fail
    go_end0
    exact ⟨rfl, HF.out.cut 1 (-1), HH.out _ _ _⟩
  · have hc0 : (0 : Int) ≤ (c : Int) := by omega
    go_enter Yba.func47, Yba.ntmps47
    go_wp2_with fail
    go_region
    all_goals go_wp2_with fail
    go_end0
    exact ⟨rfl, HF.out.cut 1 (-1), HH.out _ _ _⟩

set_option maxHeartbeats 2000000 in
theorem follows48 (fb base : Nat) (f : Fr) (a : Option Addr) (c : Nat) (W : World) (h : FrAt fb base f a c W) (wb : Bool) :
    Calls Yba.prog 48 #[.pointer (some ⟨fb, 0, none⟩), .bool wb] W fun e w' => e = .returned (.tuple #[.int .i32 f.wr, if wb then .slice a f.rs.length c else .slice none 0 0]) ∧ ∃ q, w' = W.drewN q := by
  have c0 := h.row.cell (i := 0) (by omega)
  have c1 := h.row.cell (i := 1) (by omega)
  have hl := h.row.lt
  rw [show frCell f.wr (.slice a f.rs.length c) 0 = .int .i32 f.wr from rfl] at c0
  rw [show frCell f.wr (.slice a f.rs.length c) 1 = .slice a f.rs.length c from rfl] at c1
  obtain ⟨r, hr⟩ : ∃ r, r = f.rs.length := ⟨_, rfl⟩
  rw [← hr] at c1 ⊢
  clear h hr
  cases wb with
  | true =>
    go_enter Yba.func48, Yba.ntmps48
    go_wp2_with fail
    go_quiet (fail)
    go_wp2_with fail
    go_ret2
    exact ⟨rfl, nq, rfl⟩
  | false =>
    go_enter Yba.func48, Yba.ntmps48
    go_wp2_with fail
    go_ret2
    exact ⟨rfl, 0, rfl⟩

/-- A read is put on the frontier: the readers' row has grown, its slice is stored. -/
theorem FrAt.push {fb base : Nat} {f : Fr} {a a3 : Option Addr} {c c3 j : Nat} {W w3 : World} (h : FrAt fb base f a c W) (o : Obj) (hown : w3.ownsRow base 21 1 (.slice a3 (f.rs.length + 1) c3) (f.rs.length + 1) ((f.rs.map fun j => Value.int .i32 ((j : Nat) : Int)) ++ [.int .i32 (j : Nat)]))
    (hg : (W.alloc o).grownBy w3 (Value.ownBlock (.slice a f.rs.length c))) :
    FrAt fb base ⟨f.wr, f.rs ++ [j]⟩ a3 c3 (w3.setCell ⟨fb, 1, none⟩ (.slice a3 (f.rs.length + 1) c3)) := by
  have hl := h.lt
  have hr := rowIs_grown (h.row.alloc o) hg (own_lt_ne h.own hl)
  refine ⟨(hr.set 1 _).congr (fun i hi => ?_), ?_, hl⟩
  · match i, hi with
    | 0, _ => rfl
    | 1, _ => simp [frCell]
  · have := own_set_other hown (a := ⟨fb, 1, none⟩) (by simpa using hl) (.slice a3 (f.rs.length + 1) c3)
    simpa using this

theorem FrAt.push_held {fb base : Nat} {f : Fr} {a : Option Addr} {c : Nat} {W w3 : World} (h : FrAt fb base f a c W) (o : Obj) (hg : (W.alloc o).grownBy w3 (Value.ownBlock (.slice a f.rs.length c))) (v : Value) :
    Held (frBlk fb a) W (w3.setCell ⟨fb, 1, none⟩ v) := by
  have h1 : Held (frBlk fb a) W w3 := by
    refine ⟨hg.os, hg.tape, hg.output, Nat.le_trans (by simp) hg.size, fun b hb hs => ?_⟩
    rw [hg.block b (by simp; omega) (fun e => hs ?_)]
    · exact Below.heap_alloc _ _ _ hb
    · cases a with
      | none => simp [Value.ownBlock] at e
      | some x => simp [Value.ownBlock] at e; exact .inr ⟨x, rfl, e.symm⟩
  exact h1.set (a := ⟨fb, 1, none⟩) v (.inl rfl)

set_option maxHeartbeats 4000000 in
set_option maxRecDepth 100000 in
theorem add49 (fb base : Nat) (f : Fr) (a : Option Addr) (c : Nat) (W : World) (h : FrAt fb base f a c W) (x : Nat) (hlen : f.rs.length ≤ 100000) (hbase : base ≤ W.heap.size) :
    Calls Yba.prog 49 #[.pointer (some ⟨fb, 0, none⟩), .int .i32 ((x / 2 : Nat) : Int), .bool (decide (x % 2 = 1))] W fun e w' => e = .returned (.tuple #[]) ∧
      ∃ a' c', FrAt fb base (f.add x) a' c' w' ∧ Held (frBlk fb a) W w' ∧ (∀ y, a' = some y → frBlk fb a y.block ∨ W.heap.size ≤ y.block) := by
  have c0 := h.row.cell (i := 0) (by omega)
  have c1 := h.row.cell (i := 1) (by omega)
  have f0 := h.row.frozen 0
  have f1 := h.row.frozen 1
  have hl := h.row.lt
  rw [show frCell f.wr (.slice a f.rs.length c) 0 = .int .i32 f.wr from rfl] at c0
  rw [show frCell f.wr (.slice a f.rs.length c) 1 = .slice a f.rs.length c from rfl] at c1
  have hh : ∀ q x v, Held (frBlk fb a) W (((W.drewN q).setCell ⟨fb, 0, none⟩ x).setCell ⟨fb, 1, none⟩ v) := fun q x v => (((Held.same W).draw q).set (a := ⟨fb, 0, none⟩) x (.inl rfl)).set (a := ⟨fb, 1, none⟩) v (.inl rfl)
  have HH : Hid _ := hh
  have HF : Hid (FrAt fb base f a c W) := h
  have hown := own_addr h.own
  have own1 := h.own
  obtain ⟨j, hj⟩ : ∃ j, j = x / 2 := ⟨_, rfl⟩
  have eadd : f.add x = if x % 2 = 1 then ⟨(j : Int), []⟩ else ⟨f.wr, f.rs ++ [j]⟩ := by rw [hj]; rfl
  rw [← hj]
  clear hj hh
  by_cases hx : x % 2 = 1
  · rw [decide_eq_true hx]
    rw [if_pos hx] at eadd
    rw [eadd]
    clear eadd own1
    obtain ⟨r, hr⟩ : ∃ r, r = f.rs.length := ⟨_, rfl⟩
    rw [← hr] at c1 hown
    clear hr
    rcases hown with ⟨rfl, rfl, rfl⟩ | ⟨g, rfl, h1, h2, h3, h4⟩
    · go_enter Yba.func49, Yba.ntmps49
      go_wp2_with fail
      go_region
      all_goals go_wp2_with fail
      refine bodyPost_ret (results_none rfl _ _ _) rfl ?_
      exact ⟨rfl, none, 0, HF.out.cut 1 (j : Int), HH.out _ _ _, fun y e => .inl (.inr ⟨y, e, rfl⟩)⟩
    · go_enter Yba.func49, Yba.ntmps49
      go_wp2_with fail
      go_region
      all_goals go_wp2_with fail
      refine bodyPost_ret (results_none rfl _ _ _) rfl ?_
      exact ⟨rfl, _, c, HF.out.cut 1 (j : Int), HH.out _ _ _, fun y e => .inl (.inr ⟨y, e, rfl⟩)⟩
  · rw [decide_eq_false hx]
    rw [if_neg hx] at eadd
    rw [eadd]
    clear eadd hown
    obtain ⟨i21, hi21, hz210, hz211, hz212⟩ := info_parts info21
    go_enter Yba.func49, Yba.ntmps49
    go_wp2_with (first
      | (at_builtin; (refine wpList_append_own_at _ rfl _ _ 43 rfl base 21 i21 (.int .i32 0) 1 4 Yba.underlying43 hi21 hz210 hz211 hz212 rfl (by decide) _ _ _ rfl (own1.alloc _) ⟨W.heap.size, 0, none⟩ 1 1 [.int .i32 (j : Int)] rfl rfl (cell_one_new _ _ _) (by simp [Value.oneCell']) (by unfold maxLen; omega) (by omega) (by simp; omega) ?_; intro v' w3 hown' hgrow hnil hat; obtain ⟨a3, cp3, hv3⟩ := own_shape hown'; subst hv3; have hr3 := rowIs_grown (HF.out.row.alloc _) hgrow (own_lt_ne own1 HF.out.lt); have y1 := hr3.cell (i := 1) (by omega); have y2 := hr3.frozen 1; have hl3 := hr3.lt; have HO : Hid _ := hown'; have HG : Hid _ := hgrow; have HAT : Hid _ := hat; clear hown' hgrow hnil hat hr3)))
    go_end0
    refine ⟨rfl, a3, cp3, HF.out.push _ HO.out HG.out, HF.out.push_held _ HG.out _, fun y e => ?_⟩
    subst e
    have hat := HAT.out
    rcases hat with e | e
    · have e : some y.block = Value.ownBlock (.slice a f.rs.length c) := e
      cases a with
      | none => exact absurd e (by simp [Value.ownBlock])
      | some u =>
        have e' : y.block = u.block := by simpa [Value.ownBlock] using e
        exact .inl (.inr ⟨u, rfl, e'.symm⟩)
    · simp [Value.ownBlock] at e
      exact .inr (by omega)

end Go.Proofs.Ybulkbik
