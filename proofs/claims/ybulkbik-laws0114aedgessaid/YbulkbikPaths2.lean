import Derived.Test.YbulkbikPaths
namespace Go.Proofs.Ybulkbik
attribute [local go_sem ↓] Go.wp_at_zero Go.wp_at_succ
open Go.RowKit Go.Maps Go.Sort

/-- Two stores into blocks that lay before the graph was drawn. -/
theorem GrPost.store {n : Nat} {E : List (Nat × Nat)} {w w0 : World} {lb : Nat} {w' : World} (h : GrPost n E w0 lb w') (hb : Below w.heap.size w w0) {a : Addr} (h1 : w.heap.size ≤ a.block) (h2 : a.block < w0.heap.size) (v : Value) {b : Addr} (h3 : w.heap.size ≤ b.block) (h4 : b.block < w0.heap.size) (u : Value) :
    GrPost n E w lb ((w'.setCell a v).setCell b u) := by
  obtain ⟨ab, F, k1, k2, k3, k4, k5⟩ := h
  have hs := hb.size
  refine ⟨ab, F, (((hb.trans (k1.mono hs))).setCell h1 _).setCell h3 _, by omega, by omega, k4, ?_⟩
  exact k5.of_block ((Below.heap_setCell _ _ _ _ (by omega)).trans (Below.heap_setCell _ _ _ _ (by omega))) ((Below.heap_setCell _ _ _ _ (by omega)).trans (Below.heap_setCell _ _ _ _ (by omega)))

set_option maxHeartbeats 2000000 in
theorem paths23 (tb ob n m : Nat) (ib L : Nat → Nat) (V : Nat → Nat → Nat) (w : World) (hl : LaidA w n m tb ob ib L V) (hi : InA n m L V) :
    Calls Yba.prog 23 #[aggA tb ob n m] w fun e w' => ∃ lb, e = .returned (.agg #[.slice (some ⟨tb, 0, none⟩) n n, .slice (some ⟨lb, 0, none⟩) n n]) ∧ GrPost n (edgesA (lstsA m L V)) w lb w' := by
  have b0 := ((Below.refl w.heap.size w).alloc (Nat.le_refl _) (.cells #[.slice (some ⟨tb, 0, none⟩) n n, .slice (some ⟨ob, 0, none⟩) m m] 27)).alloc (by simp) (.cells #[.slice none 0 0, .slice none 0 0] 39)
  have c32 := graph32 tb ob n m ib L V _ (hl.of_below b0) hi
  have r0 := row2_new (w.alloc (.cells #[.slice (some ⟨tb, 0, none⟩) n n, .slice (some ⟨ob, 0, none⟩) m m] 27)) (.slice none 0 0) (.slice none 0 0) 39
  have hs0 : ((w.alloc (.cells #[.slice (some ⟨tb, 0, none⟩) n n, .slice (some ⟨ob, 0, none⟩) m m] 27)).alloc (.cells #[.slice none 0 0, .slice none 0 0] 39)).heap.size = w.heap.size + 1 + 1 := by simp
  unfold aggA at c32 ⊢
  go_enter Yba.func23, Yba.ntmps23
  go_wp2_with (go_at_call 32; refine c32.mono ?_; rintro e w1 ⟨lb, rfl, hg⟩; have r1 := r0.of_block (hg.choose_spec.choose_spec.1.block _ r0.lt); have k0 := r1.cell (i := 0) (Nat.zero_lt_two); have k1 := r1.cell (i := 1) (Nat.one_lt_two); have f0 := r1.frozen 0; have f1 := r1.frozen 1; have hl1 := r1.lt; simp only [World.size_alloc] at k0 k1 f0 f1 hl1)
  have hr := (r1.set 0 (.slice (some ⟨tb, 0, none⟩) n n)).set 1 (.slice (some ⟨lb, 0, none⟩) n n)
  simp only [World.size_alloc] at hr
  refine bodyPost_ret (ret39 Yba.results23 rfl hr) rfl ⟨lb, rfl, hg.store b0 (by simp) (by simp) _ (by simp) (by simp) _⟩

/-- The cells of a 'sources'. -/
def srcCell (ac : Nat) (pg : Option Addr) (i : Nat) : Value :=
  if i = 1 then .pointer (some ⟨ac, 0, none⟩) else if i = 2 then .pointer pg else if i = 3 then .slice none 0 0 else .pointer none

def accCell (tb ob n m : Nat) (i : Nat) : Value := if i = 0 then .slice (some ⟨tb, 0, none⟩) n n else .slice (some ⟨ob, 0, none⟩) m m

set_option maxHeartbeats 2000000 in
theorem acc22 (sb ac tb ob n m : Nat) (pg : Option Addr) (w : World) (hs : w.rowIs sb 37 5 (srcCell ac pg)) (ha : w.rowIs ac 27 2 (accCell tb ob n m)) :
    Calls Yba.prog 22 #[.pointer (some ⟨sb, 0, none⟩)] w fun e w' => e = .returned (aggA tb ob n m) ∧ Below w.heap.size w w' := by
  have c1 := hs.cell (i := 1) (by omega)
  rw [show srcCell ac pg 1 = .pointer (some ⟨ac, 0, none⟩) from rfl] at c1
  have a0 := ha.cell (i := 0) (by omega)
  have a1 := ha.cell (i := 1) (by omega)
  rw [show accCell tb ob n m 0 = .slice (some ⟨tb, 0, none⟩) n n from rfl] at a0
  rw [show accCell tb ob n m 1 = .slice (some ⟨ob, 0, none⟩) m m from rfl] at a1
  have l1 := hs.lt
  have l2 := ha.lt
  go_enter Yba.func22, Yba.ntmps22
  go_wp2_with fail
  have hr := row2_new w (.slice (some ⟨tb, 0, none⟩) n n) (.slice (some ⟨ob, 0, none⟩) m m) 27
  refine bodyPost_ret (ret27 Yba.results22 rfl hr) rfl ⟨rfl, (Below.refl w.heap.size w).alloc (Nat.le_refl _) _⟩

/-- The graph as it is kept: its block pg, and its lists. -/
structure GrAt (tb n : Nat) (E : List (Nat × Nat)) (gb lb ab : Nat) (F : Nat → Int) (W : World) : Prop where
  row : W.rowIs gb 39 2 (fun i => if i = 0 then .slice (some ⟨tb, 0, none⟩) n n else .slice (some ⟨lb, 0, none⟩) n n)
  succ : SuccTo n E lb ab n F W
  ne : lb ≠ ab ∧ gb ≠ lb ∧ gb ≠ ab

set_option maxHeartbeats 4000000 in
set_option maxRecDepth 100000 in
/-- The first call of sources.paths. -/
theorem paths11 (sb ac tb ob n m : Nat) (ib L : Nat → Nat) (V : Nat → Nat → Nat) (w : World) (hl : LaidA w n m tb ob ib L V) (hi : InA n m L V) (hs : w.rowIs sb 37 5 (srcCell ac none)) (ha : w.rowIs ac 27 2 (accCell tb ob n m)) :
    Calls Yba.prog 11 #[.pointer (some ⟨sb, 0, none⟩)] w fun e w' => ∃ gb lb ab F, e = .returned (.agg #[.slice (some ⟨tb, 0, none⟩) n n, .slice (some ⟨lb, 0, none⟩) n n]) ∧ w.grownBy w' (some sb) ∧ w'.rowIs sb 37 5 (srcCell ac (some ⟨gb, 0, none⟩)) ∧
      w.heap.size ≤ gb ∧ w.heap.size ≤ lb ∧ w.heap.size ≤ ab ∧ GrAt tb n (edgesA (lstsA m L V)) gb lb ab F w' := by
  have c2 := hs.cell (i := 2) (by omega)
  rw [show srcCell ac none 2 = .pointer none from rfl] at c2
  have l1 := hs.lt
  have b0 := (Below.refl w.heap.size w).alloc (Nat.le_refl _) (.cells #[.slice none 0 0, .slice none 0 0] 39)
  have c22 := acc22 sb ac tb ob n m none _ (hs.alloc (.cells #[.slice none 0 0, .slice none 0 0] 39)) (ha.alloc _)
  have c23 : ∀ w1, Below (w.alloc (.cells #[.slice none 0 0, .slice none 0 0] 39)).heap.size (w.alloc (.cells #[.slice none 0 0, .slice none 0 0] 39)) w1 → Calls Yba.prog 23 #[aggA tb ob n m] w1 fun e w' => ∃ lb, e = .returned (.agg #[.slice (some ⟨tb, 0, none⟩) n n, .slice (some ⟨lb, 0, none⟩) n n]) ∧ GrPost n (edgesA (lstsA m L V)) w1 lb w' ∧ Below (w.heap.size + 1) (w.alloc (.cells #[.slice none 0 0, .slice none 0 0] 39)) w' := fun w1 hb => by
    refine (paths23 tb ob n m ib L V w1 ((hl.of_below b0).of_below hb) hi).mono ?_
    rintro e w' ⟨lb, rfl, hg⟩
    refine ⟨lb, rfl, hg, ?_⟩
    have hb2 := hb.trans (hg.choose_spec.choose_spec.1.mono hb.size)
    simpa using hb2
  have r0 := row2_new w (.slice none 0 0) (.slice none 0 0) 39
  have hs0 := hs.alloc (.cells #[.slice none 0 0, .slice none 0 0] 39)
  have hsz : (w.alloc (.cells #[.slice none 0 0, .slice none 0 0] 39)).heap.size = w.heap.size + 1 := by simp
  generalize aggA tb ob n m = ag at c22 c23
  generalize hw0 : w.alloc (.cells #[.slice none 0 0, .slice none 0 0] 39) = w0 at *
  have d2 := hs0.cell (i := 2) (by omega)
  rw [show srcCell ac none 2 = .pointer none from rfl] at d2
  have l0 := hs0.lt
  clear c2
  go_enter Yba.func11, Yba.ntmps11
  go_wp2_with (first
    | (go_at_call 22; refine c22.mono ?_; rintro e w1 ⟨rfl, hb1⟩)
    | (go_at_call 23; refine (c23 _ hb1).mono ?_; rintro e w2 ⟨lb, rfl, hg, hb2⟩; have s2 := hs0.of_block (hb2.block _ (Nat.lt_succ_of_lt l1)); have r2 := r0.of_block (hb2.block _ (Nat.lt_succ_self _)); have p2 := s2.cell (i := 2) (by decide); have q2 := s2.frozen 2; have p3 := r2.cell (i := 0) (by decide); have p4 := r2.cell (i := 1) (by decide); have q3 := r2.frozen 0; have q4 := r2.frozen 1; have ls2 := s2.lt; have lr2 := r2.lt))
  obtain ⟨ab, F, g1, g2, g3, g4, g5⟩ := hg
  have hz1 := hb1.size
  have ltop := g5.top.lt
  have lrow := g5.row.lt
  have keep : ∀ k, k < w2.heap.size → k ≠ sb → k ≠ w.heap.size → ((((w2.setCell ⟨sb, 2, none⟩ (.pointer (some ⟨w2.heap.size, 0, none⟩))).setCell ⟨w.heap.size, 0, none⟩ (.slice (some ⟨tb, 0, none⟩) n n)).setCell ⟨w.heap.size, 1, none⟩ (.slice (some ⟨lb, 0, none⟩) n n)).alloc
      (.cells #[.slice (some ⟨tb, 0, none⟩) n n, .slice (some ⟨lb, 0, none⟩) n n] 39)).heap[k]? = w2.heap[k]? := fun k hk h1 h2 =>
    (Below.heap_alloc _ _ _ (by simpa using hk)).trans ((Below.heap_setCell _ _ _ _ h2).trans ((Below.heap_setCell _ _ _ _ h2).trans (Below.heap_setCell _ _ _ _ h1)))
  have hr := (((r2.setOther (a := ⟨sb, 2, none⟩) (by simp; omega) (.pointer (some ⟨w2.heap.size, 0, none⟩))).set 0 (.slice (some ⟨tb, 0, none⟩) n n)).set 1 (.slice (some ⟨lb, 0, none⟩) n n)).alloc (.cells #[.slice (some ⟨tb, 0, none⟩) n n, .slice (some ⟨lb, 0, none⟩) n n] 39)
  have hsr := (((s2.set 2 (.pointer (some ⟨w2.heap.size, 0, none⟩))).setOther (a := ⟨w.heap.size, 0, none⟩) (by simp; omega) (.slice (some ⟨tb, 0, none⟩) n n)).setOther (a := ⟨w.heap.size, 1, none⟩) (by simp; omega) (.slice (some ⟨lb, 0, none⟩) n n)).alloc (.cells #[.slice (some ⟨tb, 0, none⟩) n n, .slice (some ⟨lb, 0, none⟩) n n] 39)
  have hgr := row2_new (((w2.setCell ⟨sb, 2, none⟩ (.pointer (some ⟨w2.heap.size, 0, none⟩))).setCell ⟨w.heap.size, 0, none⟩ (.slice (some ⟨tb, 0, none⟩) n n)).setCell ⟨w.heap.size, 1, none⟩ (.slice (some ⟨lb, 0, none⟩) n n)) (.slice (some ⟨tb, 0, none⟩) n n) (.slice (some ⟨lb, 0, none⟩) n n) 39
  simp only [World.size_setCell] at hgr
  refine bodyPost_ret (ret39 Yba.results11 rfl hr) rfl ⟨w2.heap.size, lb, ab, F, rfl, ?_, ?_, by omega, by omega, by omega, ⟨hgr, g5.of_block (keep _ ltop (by omega) (by omega)) (keep _ lrow (by omega) (by omega)), ⟨g4, by omega, by omega⟩⟩⟩
  · have e0 := b0
    refine ⟨hb2.os.trans e0.os, hb2.tape.trans e0.tape, hb2.output.trans e0.output, by have := hb2.size; simp; omega, fun k hk hne => ?_⟩
    rw [keep k (by omega) (fun e => hne (by rw [e])) (by omega), hb2.block k (by omega)]
    exact e0.block k hk
  · refine hsr.congr (fun i hi => ?_)
    match i, hi with
    | 0, _ => rfl
    | 1, _ => rfl
    | 2, _ => rfl
    | 3, _ => rfl
    | 4, _ => rfl

end Go.Proofs.Ybulkbik
