import Derived.Test.YbulkbikFront
import Derived.Test.YbulkbikRangeB
import Derived.Test.YbulkbikIter
import Derived.Deep.DeepCutAuto
import Derived.Deep.CutRange
/-! The reduced edges as they are yielded (33). -/
namespace Go.Proofs.Ybulkbik
attribute [local go_sem ↓] Go.wp_at_zero Go.wp_at_succ
attribute [local go_sem] Oper.semAt_some
open Go.RowKit Go.Maps

def encA (e : Nat × Nat) : Array Value := #[.int .i32 ((e.1 : Nat) : Int), .int .i32 ((e.2 : Nat) : Int)]

/-- The lists of accesses. -/
def lstA (L : Nat → Nat) (V : Nat → Nat → Nat) (x : Nat) : List Nat := (List.range (L x)).map (V x)
def lstsA (m : Nat) (L : Nat → Nat) (V : Nat → Nat → Nat) : List (List Nat) := (List.range m).map (lstA L V)

theorem lstA_drop {L : Nat → Nat} {V : Nat → Nat → Nat} {x q : Nat} (h : q < L x) : (lstA L V x).drop q = V x q :: (lstA L V x).drop (q + 1) := by
  rw [List.drop_eq_getElem_cons (by simpa [lstA] using h)]
  simp [lstA]

theorem lstsA_drop {m : Nat} {L : Nat → Nat} {V : Nat → Nat → Nat} {x : Nat} (h : x < m) : (lstsA m L V).drop x = lstA L V x :: (lstsA m L V).drop (x + 1) := by
  rw [List.drop_eq_getElem_cons (by simpa [lstsA] using h)]
  simp [lstsA]

theorem edgesA_cons (l : List Nat) (ls : List (List Nat)) : edgesA (l :: ls) = listEdges Fr.zero l ++ edgesA ls := by simp [edgesA]

/-- The blocks that the iterator reads and that lie when it is called. -/
def rdA (ob m : Nat) (ib : Nat → Nat) (b : Nat) : Prop := b = ob ∨ ∃ x, x < m ∧ b = ib x

/-- What the iterator holds in memory as it goes, and that none of it is the caller's. -/
structure ItA (ob m : Nat) (ib : Nat → Nat) (L : Nat → Nat) (V : Nat → Nat → Nat) (fb : Nat) (f : Fr) (a : Option Addr) (c : Nat) (M : Nat → Prop) (wr : World) : Prop where
  outer : wr.rowIs ob 43 m (fun x => .slice (some ⟨ib x, 0, none⟩) (L x) (L x))
  inner : ∀ x, x < m → wr.rowIs (ib x) 21 (L x) (fun k => .int .i32 (V x k : Nat))
  fr : FrAt fb (fb + 1) f a c wr
  old : ∀ b, rdA ob m ib b → b < fb
  no1 : ∀ b, rdA ob m ib b → ¬ M b
  no2 : ∀ b, frBlk fb a b → ¬ M b

theorem FrAt.blk_lt {fb base : Nat} {f : Fr} {a : Option Addr} {c : Nat} {W : World} (h : FrAt fb base f a c W) {b : Nat} (hb : frBlk fb a b) : fb ≤ b ∧ b < W.heap.size := by
  have hl := h.lt
  rcases hb with rfl | ⟨x, rfl, rfl⟩
  · exact ⟨Nat.le_refl _, h.row.lt⟩
  · rcases own_addr h.own with ⟨e, _⟩ | ⟨g, e, h1, h2, _⟩
    · cases e
    · injection e with e; subst e; exact ⟨by simp; omega, h2⟩

theorem turn_of_held {S M : Nat → Prop} {B X : Nat} {A C : World} (h : Held S A C) (h1 : ∀ b, S b → ¬ M b) (h2 : ∀ b, S b → B ≤ b) : Turn M B X A C :=
  ⟨h.os, h.tape, h.output, h.size, fun b hb hm => h.held b hb (fun hs => by
    rcases hm with hm | hm
    · exact h1 b hs hm
    · have := h2 b hs; omega)⟩

theorem FrAt.same {fb base : Nat} {f : Fr} {a : Option Addr} {c : Nat} {A C : World} (h : FrAt fb base f a c A) (hs : ∀ b, frBlk fb a b → C.heap[b]? = A.heap[b]?) : FrAt fb base f a c C where
  row := h.row.of_block (hs _ (.inl rfl))
  own := own_same h.own (fun b hb => hs b (by
    cases a with
    | none => simp [Value.ownBlock] at hb
    | some x => simp [Value.ownBlock] at hb; exact .inr ⟨x, rfl, hb⟩))
  lt := h.lt

/-- Behind a round of the caller's. -/
theorem ItA.yielded {ob m : Nat} {ib L : Nat → Nat} {V : Nat → Nat → Nat} {fb : Nat} {f : Fr} {a : Option Addr} {c : Nat} {M M2 : Nat → Prop} {A C : World} (h : ItA ob m ib L V fb f a c M A) (hh : Held M A C) (hM : ∀ b, M2 b → M b ∨ A.heap.size ≤ b) : ItA ob m ib L V fb f a c M2 C where
  outer := h.outer.of_block (hh.held _ h.outer.lt (h.no1 _ (.inl rfl)))
  inner := fun x hx => (h.inner x hx).of_block (hh.held _ (h.inner x hx).lt (h.no1 _ (.inr ⟨x, hx, rfl⟩)))
  fr := h.fr.same (fun b hb => hh.held b (h.fr.blk_lt hb).2 (h.no2 b hb))
  old := h.old
  no1 := fun b hb hm => (hM b hm).elim (h.no1 b hb) (fun hle => by
    rcases hb with rfl | ⟨x, hx, rfl⟩
    · have := h.outer.lt; omega
    · have := (h.inner x hx).lt; omega)
  no2 := fun b hb hm => (hM b hm).elim (h.no2 b hb) (fun hle => by have := (h.fr.blk_lt hb).2; omega)

/-- Behind a step of the iterator's own on its frontier. -/
theorem ItA.moved {ob m : Nat} {ib L : Nat → Nat} {V : Nat → Nat → Nat} {fb : Nat} {f f' : Fr} {a a' : Option Addr} {c c' : Nat} {M : Nat → Prop} {A C : World} (h : ItA ob m ib L V fb f a c M A) (hM : ∀ b, M b → b < A.heap.size) (hh : Held (frBlk fb a) A C) (hf : FrAt fb (fb + 1) f' a' c' C) (ha : ∀ y, a' = some y → frBlk fb a y.block ∨ A.heap.size ≤ y.block) : ItA ob m ib L V fb f' a' c' M C where
  outer := h.outer.of_block (hh.held _ h.outer.lt (fun hb => by have h1 := (h.fr.blk_lt hb).1; have h2 := h.old ob (.inl rfl); omega))
  inner := fun x hx => (h.inner x hx).of_block (hh.held _ (h.inner x hx).lt (fun hb => by have h1 := (h.fr.blk_lt hb).1; have h2 := h.old (ib x) (.inr ⟨x, hx, rfl⟩); omega))
  fr := hf
  old := h.old
  no1 := h.no1
  no2 := fun _ hb hm => by
    rcases hb with rfl | ⟨y, hy, rfl⟩
    · exact h.no2 _ (.inl rfl) hm
    · rcases ha y hy with e | e
      · exact h.no2 _ e hm
      · have := hM _ hm; omega

theorem ItA.turn {ob m : Nat} {ib L : Nat → Nat} {V : Nat → Nat → Nat} {fb B X : Nat} {f : Fr} {a : Option Addr} {c : Nat} {M : Nat → Prop} {A C : World} (h : ItA ob m ib L V fb f a c M A) (hh : Held (frBlk fb a) A C) (hB : B ≤ fb) : Turn M B X A C :=
  turn_of_held hh h.no2 (fun _ hb => Nat.le_trans hB (h.fr.blk_lt hb).1)

theorem own_cellA {w : World} {base e : Nat} {a : Option Addr} {m c : Nat} {xs : List Value} {q : Nat} {u : Value} (h : w.ownsRow base e 1 (.slice a m c) m xs) (hq : xs[q]? = some u) : ∃ gs, a = some ⟨gs, 0, none⟩ ∧ gs < w.heap.size ∧ w.cell? ⟨gs, q, none⟩ = some u := by
  have hl := h.1
  have hql : q < xs.length := (List.getElem?_eq_some_iff.1 hq).1
  rcases h.2 with ⟨e, h0⟩ | ⟨g, cap, cur, e, hb, hg, r⟩
  · omega
  · simp at e
    obtain ⟨rfl, rfl⟩ := e
    refine ⟨g, rfl, (h.lt g rfl).2, ?_⟩
    have := h.cells (g := g) rfl q u hq
    rwa [Addr.add_lit, Nat.zero_add] at this

/-- The readers that a write follows; none for a read. -/
def rdsA (wb : Bool) (f : Fr) : List Nat := if wb then f.rs else []

theorem rds_slice (wb : Bool) (f : Fr) (a : Option Addr) (c : Nat) : (if wb then Value.slice a f.rs.length c else .slice none 0 0) = .slice (if wb then a else none) (rdsA wb f).length (if wb then c else 0) := by
  cases wb <;> rfl

theorem rds_cell {fb base : Nat} {f : Fr} {a : Option Addr} {c : Nat} {W : World} (h : FrAt fb base f a c W) (wb : Bool) {r : Nat} (hr : r < (rdsA wb f).length) :
    ∃ g, (if wb then a else none) = some ⟨g, 0, none⟩ ∧ g < W.heap.size ∧ W.cell? ⟨g, r, none⟩ = some (.int .i32 (((rdsA wb f)[r] : Nat) : Int)) := by
  cases wb with
  | false => simp [rdsA] at hr
  | true =>
    have hr' : r < f.rs.length := hr
    exact own_cellA h.own (q := r) (by simp [hr', rdsA])

/-- The edge from the last writer, where there is one. -/
def wrEdge (f : Fr) (j : Nat) : List (Nat × Nat) := if 0 ≤ f.wr ∧ f.wr ≠ (j : Int) then [(f.wr.toNat, j)] else []
def rdEdges (rs : List Nat) (j : Nat) : List (Nat × Nat) := (rs.filter (fun i => decide (i ≠ j))).map (fun i => (i, j))

theorem edges_split (f : Fr) (v : Nat) : f.edges v = wrEdge f (v / 2) ++ rdEdges (rdsA (decide (v % 2 = 1)) f) (v / 2) := by
  unfold Fr.edges wrEdge rdEdges rdsA
  by_cases h : v % 2 = 1
  · rw [if_pos h, decide_eq_true h]; rfl
  · rw [if_neg h, decide_eq_false h]; rfl

theorem rdEdges_drop {rs : List Nat} {j r : Nat} (h : r < rs.length) : rdEdges (rs.drop r) j = (if rs[r] = j then [] else [(rs[r], j)]) ++ rdEdges (rs.drop (r + 1)) j := by
  rw [List.drop_eq_getElem_cons h]
  unfold rdEdges
  by_cases e : rs[r] = j
  · rw [if_pos e, List.filter_cons_of_neg (by simp [e])]; rfl
  · rw [if_neg e, List.filter_cons_of_pos (by simp [e])]; rfl

theorem at_done {α : Type} {E dn r : List α} {e : α} (h : E = dn ++ (e :: r)) : E[dn.length]? = some e := by
  rw [h, List.getElem?_append_right (Nat.le_refl _)]; simp

theorem and1i (v : Nat) (hv : v < 1000) : bits .and .i32 (v : Int) 1 = ((v % 2 : Nat) : Int) := by
  have := bits_mask .i32 31 (by decide) wraps_i32 1 (by decide) (v : Int) (by omega) (by omega)
  simpa using this

set_option maxRecDepth 100000 in
set_option maxHeartbeats 8000000 in
theorem iter33 (tb ob n m X : Nat) (ib L : Nat → Nat) (V : Nat → Nat → Nat) (w : World) (mm : Nat) (hn : n ≤ 8) (hm : m ≤ 256) (hL : ∀ x, x < m → L x ≤ 1024) (hV : ∀ x k, x < m → k < L x → V x k < 2 * n)
    (hout : w.rowIs ob 43 m (fun x => .slice (some ⟨ib x, 0, none⟩) (L x) (L x))) (hin : ∀ x, x < m → w.rowIs (ib x) 21 (L x) (fun k => .int .i32 (V x k : Nat))) :
    SeqB Fence.wide mm Yba.prog 33 #[.agg #[.slice (some ⟨tb, 0, none⟩) n n, .slice (some ⟨ob, 0, none⟩) m m]] encA (edgesA (lstsA m L V)) (rdA ob m ib) X w := by
  intro l J Jx M W hW hRM hJ hJb hY hJ0
  refine callsIn_wide.2 ?_
  have houts := hout.of_block (hW.block _ hout.lt)
  have hins : ∀ x, x < m → W.rowIs (ib x) 21 (L x) (fun k => .int .i32 (V x k : Nat)) := fun x hx => (hin x hx).of_block (hW.block _ (hin x hx).lt)
  have HJ : Hid (∀ (k : Nat) (M : Nat → Prop) (A B : World), J k M A → Turn M W.heap.size X A B → J k M B) := hJ
  have HJb : Hid (∀ (k : Nat) (M : Nat → Prop) (A : World), J k M A → ∀ b, M b → b < A.heap.size) := hJb
  have HY : Hid _ := hY
  clear hJ hJb hY
  have hit0 : ItA ob m ib L V (W.heap.size + 1) ⟨0, []⟩ none 0 M ((W.alloc (.cells #[.slice (some ⟨tb, 0, none⟩) n n, .slice (some ⟨ob, 0, none⟩) m m] 27)).alloc (.cells #[.int .i32 0, .slice none 0 0] 127)) := by
    refine ⟨(houts.alloc _).alloc _, fun x hx => ((hins x hx).alloc _).alloc _, ⟨?_, ?_, by omega⟩, ?_, hRM, ?_⟩
    · have := World.rowIs_alloc (W.alloc (.cells #[.slice (some ⟨tb, 0, none⟩) n n, .slice (some ⟨ob, 0, none⟩) m m] 27)) #[.int .i32 0, .slice none 0 0] 127 (frCell 0 (.slice none 0 0)) (fun i hi => by
        match i, hi with
        | 0, _ => rfl
        | 1, _ => rfl)
      simpa using this
    · have := World.ownsRow_nil ((W.alloc (.cells #[.slice (some ⟨tb, 0, none⟩) n n, .slice (some ⟨ob, 0, none⟩) m m] 27)).alloc (.cells #[.int .i32 0, .slice none 0 0] 127)) (W.heap.size + 1 + 1) 21 1
      simpa using this
    · rintro b (rfl | ⟨x, hx, rfl⟩)
      · have := houts.lt; omega
      · have := (hins x hx).lt; omega
    · rintro b (rfl | ⟨x, e, _⟩) hm'
      · have := HJb.out 0 M W hJ0 _ hm'; omega
      · cases e
  have hJ1 : J 0 M ((W.alloc (.cells #[.slice (some ⟨tb, 0, none⟩) n n, .slice (some ⟨ob, 0, none⟩) m m] 27)).alloc (.cells #[.int .i32 0, .slice none 0 0] 127)) := HJ.out 0 M _ _ hJ0 (((Turn.refl _ _ _ W).alloc _).alloc _)
  have HIT : Hid _ := hit0
  have HJ1 : Hid _ := hJ1
  have ol := houts.lt
  clear hit0 hJ1 houts hins hRM hJ0
  go_enter Yba.func33, Yba.ntmps33
  go_wp2_with fail
  generalize (W.alloc (.cells #[.slice (some ⟨tb, 0, none⟩) n n, .slice (some ⟨ob, 0, none⟩) m m] 27)).alloc (.cells #[.int .i32 0, .slice none 0 0] 127) = w1 at HIT HJ1 ⊢
  generalize hfb : W.heap.size + 1 = fb at HIT ⊢
  go_loopw [18] (fun vx wr => ∃ (x : Nat) (f : Fr) (a : Option Addr) (c : Nat) (M' : Nat → Prop) (dn : List (Nat × Nat)), x ≤ m ∧ vx = .int .i64 (x : Nat) ∧ Hid (ItA ob m ib L V fb f a c M' wr) ∧ Hid (J dn.length M' wr) ∧ Hid (edgesA (lstsA m L V) = dn ++ edgesA ((lstsA m L V).drop x))) (fun vx _ => m - (intOf vx).toNat)
  case atStart => exact ⟨0, _, none, 0, M, [], Nat.zero_le _, rfl, HIT, HJ1, by simp [Hid]⟩
  case round =>
    clear HIT HJ1
    obtain ⟨x, f, a, c, M', dn, hx, rfl, HIT, HJi, HE⟩ := hrel
    by_cases hlx : x < m
    · have oc := HIT.out.outer.cell (i := x) hlx
      have olt := HIT.out.outer.lt
      have c47 := reset47 fb (fb + 1) f a c wr HIT.out.fr
      have hLx := hL x hlx
      go_wp2_with (go_at_call 47; refine c47.mono ?_; rintro e w2 ⟨rfl, F2, H2⟩)
      have it2 := HIT.out.moved (HJb.out _ _ _ HJi.out) H2 F2 (fun y hy => .inl (.inr ⟨y, hy, rfl⟩))
      have j2 := HJ.out _ _ _ _ HJi.out (HIT.out.turn (B := W.heap.size) (X := X) H2 (by omega))
      have e2 : edgesA (lstsA m L V) = dn ++ (listEdges Fr.zero ((lstA L V x).drop 0) ++ edgesA ((lstsA m L V).drop (x + 1))) := by
        rw [HE.out, lstsA_drop hlx, edgesA_cons]; rfl
      have HIT2 : Hid _ := it2
      have HJ2 : Hid _ := j2
      have HE2 : Hid _ := e2
      clear it2 j2 e2 HIT HJi HE c47 F2 H2 oc olt
      go_loopw [25] (fun vq wr => ∃ (q : Nat) (f : Fr) (a : Option Addr) (c : Nat) (M' : Nat → Prop) (dn : List (Nat × Nat)), q ≤ L x ∧ vq = .int .i64 (q : Nat) ∧ Hid (ItA ob m ib L V fb f a c M' wr) ∧ Hid (J dn.length M' wr) ∧ f.rs.length ≤ q ∧ Hid (f.Ok n) ∧
          Hid (edgesA (lstsA m L V) = dn ++ (listEdges f ((lstA L V x).drop q) ++ edgesA ((lstsA m L V).drop (x + 1))))) (fun vq _ => L x - (intOf vq).toNat)
      case atStart => exact ⟨0, Fr.zero, a, c, M', dn, Nat.zero_le _, rfl, HIT2, HJ2, Nat.le_refl _, Fr.ok_zero n, HE2⟩
      case round =>
        clear HIT2 HJ2 HE2 a c M' dn f
        obtain ⟨q, f, a, c, M', dn, hq, rfl, HIT, HJi, hfl, HOK, HE⟩ := hrel
        by_cases hlq : q < L x
        · have ic := (HIT.out.inner x hlx).cell (i := q) hlq
          have ilt := (HIT.out.inner x hlx).lt
          have hv := hV x q hlx hlq
          have hE := HE.out
          rw [lstA_drop hlq, listEdges, edges_split] at hE
          obtain ⟨v, hvv⟩ : ∃ v, v = V x q := ⟨_, rfl⟩
          rw [← hvv] at ic hv hE
          clear hvv HE
          obtain ⟨j, hj⟩ : ∃ j, j = v / 2 := ⟨_, rfl⟩
          have hj8 : j < n := by omega
          have ej : (v : Int) / 2 = (j : Int) := by rw [hj]; rfl
          obtain ⟨bb, hbb⟩ : ∃ bb, bb = v % 2 := ⟨_, rfl⟩
          have ebb := and1i v (by omega)
          obtain ⟨wb, hwb⟩ : ∃ wb, wb = decide (v % 2 = 1) := ⟨_, rfl⟩
          rw [← hwb, ← hj] at hE
          rw [← hbb] at ebb
          have ewb : (((bb : Nat) : Int) == 1) = wb := by
            rw [hwb, hbb]
            by_cases h : v % 2 = 1
            · simp [h]
            · have : v % 2 = 0 := by omega
              simp [this]
          have c48 := follows48 fb (fb + 1) f a c wr HIT.out.fr wb
          rw [rds_slice] at c48
          have c49 : ∀ (M2 : Nat → Prop) (wx : World), ItA ob m ib L V fb f a c M2 wx → Calls Yba.prog 49 #[.pointer (some ⟨fb, 0, none⟩), .int .i32 (j : Int), .bool wb] wx fun e w' => e = .returned (.tuple #[]) ∧
              ∃ a' c', FrAt fb (fb + 1) (f.add v) a' c' w' ∧ Held (frBlk fb a) wx w' ∧ (∀ y, a' = some y → frBlk fb a y.block ∨ wx.heap.size ≤ y.block) := fun M2 wx h => by
            rw [hj, hwb]
            exact add49 fb (fb + 1) f a c wx h.fr v (by omega) (by have := h.fr.row.lt; omega)
          have hOK2 := HOK.out.add hv
          have hfl2 : (f.add v).rs.length ≤ q + 1 := by
            unfold Fr.add
            split
            · simp
            · simp; omega
          have HOK2 : Hid _ := hOK2
          have HE : Hid _ := hE
          have hwr1 := HOK.out.1
          have hwr2 := HOK.out.2.1
          clear hE hOK2 hwb hbb hj HOK
          generalize hrs : rdsA wb f = rs at c48 HE
          generalize ha2 : (if wb then a else none) = a2 at c48
          generalize hc2 : (if wb then c else 0) = c2 at c48
          have HRS : Hid (∀ wx M2, ItA ob m ib L V fb f a c M2 wx → ∀ r (hr : r < rs.length), ∃ g, a2 = some ⟨g, 0, none⟩ ∧ g < wx.heap.size ∧ wx.cell? ⟨g, r, none⟩ = some (.int .i32 ((rs[r] : Nat) : Int))) := by
            intro wx M2 hit r hr
            subst hrs
            rw [← ha2]
            exact rds_cell hit.fr wb hr
          have HRL : Hid (rs.length ≤ f.rs.length) := by
            show rs.length ≤ f.rs.length
            rw [← hrs]
            cases wb
            · simp [rdsA]
            · exact Nat.le_refl _
          clear hrs ha2 hc2
          go_upto_region 11 with (go_at_call 48; refine c48.mono ?_; rintro e w3 ⟨rfl, q3, rfl⟩)
          have it3 := HIT.out.yielded ((Held.same _).draw q3) (fun b h => .inl h)
          have j3 := HJ.out _ _ _ _ HJi.out ((Turn.refl M' W.heap.size X wr).drewN q3)
          generalize wr.drewN q3 = w3 at it3 j3 ⊢
          have HIT3 : Hid _ := it3
          have HJ3 : Hid _ := j3
          clear it3 j3 HIT HJi c48 ic ilt
          go_cut [52] (fun vc wx => (vc = .bool false ∧ ∃ (M2 : Nat → Prop) (dn2 : List (Nat × Nat)), Hid (ItA ob m ib L V fb f a c M2 wx) ∧ Hid (J dn2.length M2 wx) ∧ Hid (edgesA (lstsA m L V) = dn2 ++ (rdEdges (rs.drop 0) j ++ (listEdges (f.add v) ((lstA L V x).drop (q + 1)) ++ edgesA ((lstsA m L V).drop (x + 1)))))) ∨ (vc = .bool true ∧ Hid (Jx wx)))
          case first =>
            by_cases hw : 0 ≤ f.wr ∧ f.wr ≠ (j : Int)
            · obtain ⟨wn, hwn⟩ := Int.eq_ofNat_of_zero_le hw.1
              have hE : edgesA (lstsA m L V) = dn ++ ((wn, j) :: (rdEdges (rs.drop 0) j ++ (listEdges (f.add v) ((lstA L V x).drop (q + 1)) ++ edgesA ((lstsA m L V).drop (x + 1))))) := by
                rw [HE.out, wrEdge, if_pos hw, hwn]
                simp
              obtain ⟨fn, tmps, assign, body, hy, hRd⟩ := HY.out dn.length (wn, j) M' w3 (at_done hE) HJ3.out
              unfold encA at hy
              simp only [] at hy
              rw [show ((wn : Nat) : Int) = f.wr from hwn.symm] at hy
              have hne1 : (f.wr == (j : Int)) = false := by simpa using hw.2
              have hne4 : ¬ f.wr = (j : Int) := hw.2
              have hne5 : (f.wr != (j : Int)) = true := by simpa using hw.2
              have hge : (0 : Int) ≤ f.wr := hw.1
              have HE4 : Hid _ := hE
              clear hE hw hwn
              refine (wpIn_wide (n := mm)).1 ?_
              gi_wp2
              refine ⟨fun h => by simp [Fence.wide] at h, hRd.mono ?_⟩
              rintro e w8 (⟨rfl, M2, hJ8, hH8, hM2⟩ | ⟨rfl, hJx8⟩)
              · gi_wp2
                go_meet
                exact .inl ⟨rfl, M2, dn ++ [(wn, j)], HIT3.out.yielded hH8 hM2, by show J _ _ _; simpa using hJ8, by rw [HE4.out]; simp [Hid]⟩
              · gi_wp2
                go_meet
                exact .inr ⟨rfl, hJx8⟩
            · have hE : edgesA (lstsA m L V) = dn ++ (rdEdges (rs.drop 0) j ++ (listEdges (f.add v) ((lstA L V x).drop (q + 1)) ++ edgesA ((lstsA m L V).drop (x + 1)))) := by
                rw [HE.out, wrEdge, if_neg hw]
                simp
              have HE4 : Hid _ := hE
              clear hE
              by_cases h0 : 0 ≤ f.wr
              · have hne1 : (f.wr == (j : Int)) = true := by
                  have : f.wr = (j : Int) := Classical.not_not.1 (fun h => hw ⟨h0, h⟩)
                  simpa using this
                have hne5 : (f.wr != (j : Int)) = false := by simp [bne, hne1]
                clear hw
                go_wp2_with fail
                all_goals first
                  | (go_meet
                     exact .inl ⟨rfl, M', dn, HIT3, HJ3, HE4⟩)
                  | skip
              · clear hw
                go_wp2_with fail
                go_meet
                exact .inl ⟨rfl, M', dn, HIT3, HJ3, HE4⟩
          case rest =>
            clear HIT3 HJ3 HE M' dn
            rcases hcut with ⟨rfl, M', dn, HIT, HJi, HE⟩ | ⟨rfl, HJx⟩
            · go_wp2_with fail
              go_loopw [55] (fun vr wr => ∃ (r : Nat) (M' : Nat → Prop) (dn : List (Nat × Nat)), r ≤ rs.length ∧ vr = .int .i64 (r : Nat) ∧ Hid (ItA ob m ib L V fb f a c M' wr) ∧ Hid (J dn.length M' wr) ∧
                  Hid (edgesA (lstsA m L V) = dn ++ (rdEdges (rs.drop r) j ++ (listEdges (f.add v) ((lstA L V x).drop (q + 1)) ++ edgesA ((lstsA m L V).drop (x + 1)))))) (fun vr _ => rs.length - (intOf vr).toNat)
              case atStart => exact ⟨0, M', dn, Nat.zero_le _, rfl, HIT, HJi, HE⟩
              case round =>
                clear HIT HJi HE M' dn
                obtain ⟨r, M', dn, hr, rfl, HIT, HJi, HE⟩ := hrel
                by_cases hlr : r < rs.length
                · obtain ⟨g, rfl, hg, hc⟩ := HRS.out _ _ HIT.out r hlr
                  have hE := HE.out
                  rw [rdEdges_drop hlr] at hE
                  generalize rs[r] = i at hc hE
                  have hrz : (r : Int) < (rs.length : Int) := by omega
                  have hrb : r < 1024 := by have := HRL.out; omega
                  by_cases hij : i = j
                  · subst hij
                    rw [if_pos rfl] at hE
                    have HE5 : Hid _ := hE
                    clear hE HE
                    go_wp2_with fail
                    go_roundw
                    case rel => exact ⟨r + 1, M', dn, by omega, by go_num, HIT, HJi, HE5⟩
                    case measure => simp [intOf]; omega
                  · rw [if_neg hij] at hE
                    have hE2 : edgesA (lstsA m L V) = dn ++ ((i, j) :: (rdEdges (rs.drop (r + 1)) j ++ (listEdges (f.add v) ((lstA L V x).drop (q + 1)) ++ edgesA ((lstsA m L V).drop (x + 1))))) := by
                      rw [hE]; simp
                    obtain ⟨fn, tmps, assign, body, hy, hRd⟩ := HY.out dn.length (i, j) M' wr (at_done hE2) HJi.out
                    unfold encA at hy
                    simp only [] at hy
                    have HE5 : Hid _ := hE2
                    clear hE HE hE2
                    have hne1 : ((i : Int) == (j : Int)) = false := by simp; omega
                    have hne4 : ¬ (i : Int) = (j : Int) := by omega
                    have hne5 : ((i : Int) != (j : Int)) = true := by simp; omega
                    refine (wpIn_wide (n := mm)).1 ?_
                    gi_wp2
                    refine ⟨fun h => by simp [Fence.wide] at h, hRd.mono ?_⟩
                    rintro e w8 (⟨rfl, M2, hJ8, hH8, hM2⟩ | ⟨rfl, hJx8⟩)
                    · gi_wp2
                      go_wp2_with fail
                      go_roundw
                      case rel => exact ⟨r + 1, M2, dn ++ [(i, j)], by omega, by go_num, HIT.out.yielded hH8 hM2, by show J _ _ _; simpa using hJ8, by rw [HE5.out]; simp [Hid]⟩
                      case measure => simp [intOf]; omega
                    · gi_wp2
                      refine bodyPost_ret (results_none rfl _ _ _) rfl ⟨⟨_, rfl⟩, .inr hJx8⟩
                · have hrl : r = rs.length := by omega
                  have hE := HE.out
                  rw [hrl, List.drop_of_length_le (Nat.le_refl _)] at hE
                  have HE5 : Hid (edgesA (lstsA m L V) = dn ++ (listEdges (f.add v) ((lstA L V x).drop (q + 1)) ++ edgesA ((lstsA m L V).drop (x + 1)))) := hE
                  clear hE HE
                  have c9 := c49 M' wr HIT.out
                  go_wp2_with (go_at_call 49; refine c9.mono ?_; rintro e w9 ⟨rfl, a', c', F9, H9, N9⟩)
                  go_roundw
                  case rel => exact ⟨q + 1, f.add v, a', c', M', dn, by omega, by go_num, HIT.out.moved (HJb.out _ _ _ HJi.out) H9 F9 N9, HJ.out _ _ _ _ HJi.out (HIT.out.turn (B := W.heap.size) (X := X) H9 (by omega)), hfl2, HOK2, HE5⟩
                  case measure => simp [intOf]; omega
            · go_wp2_with fail
              refine bodyPost_ret (results_none rfl _ _ _) rfl ⟨⟨_, rfl⟩, .inr HJx.out⟩
        · have hqL : q = L x := by omega
          have hE := HE.out
          rw [hqL, List.drop_of_length_le (by simp [lstA])] at hE
          have HE5 : Hid (edgesA (lstsA m L V) = dn ++ edgesA ((lstsA m L V).drop (x + 1))) := hE
          clear hE HE
          go_wp2_with fail
          go_roundw
          case rel => exact ⟨x + 1, f, a, c, M', dn, by omega, by go_num, HIT, HJi, HE5⟩
          case measure => simp [intOf]; omega
    · have hxm : x = m := by omega
      go_wp2_with fail
      go_end0
      have e := HE.out
      rw [hxm, List.drop_of_length_le (by simp [lstsA]), show edgesA [] = [] from rfl, List.append_nil] at e
      exact ⟨⟨_, rfl⟩, .inl ⟨M', by rw [e]; exact HJi.out⟩⟩

end Go.Proofs.Ybulkbik
