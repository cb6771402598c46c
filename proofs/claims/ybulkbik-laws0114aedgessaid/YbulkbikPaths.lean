import Derived.Test.YbulkbikSucc
/-! newGraph (32), accesses.paths (23), sources.accesses (22), sources.paths (11). -/
namespace Go.Proofs.Ybulkbik
attribute [local go_sem ↓] Go.wp_at_zero Go.wp_at_succ
open Go.RowKit Go.Maps Go.Sort

theorem lists_sum (m : Nat) (L : Nat → Nat) (V : Nat → Nat → Nat) : ((lstsA m L V).map List.length).sum = sumTo L m := by
  induction m with
  | zero => rfl
  | succ m ih =>
    unfold lstsA at ih ⊢
    rw [List.range_succ, List.map_append, List.map_append, List.sum_append, ih]
    simp [sumTo, lstA]

/-- What is asked of the accesses. -/
structure InA (n m : Nat) (L : Nat → Nat) (V : Nat → Nat → Nat) : Prop where
  n0 : 0 < n
  n8 : n ≤ 8
  m256 : m ≤ 256
  sum : sumTo L m ≤ 1024
  val : ∀ x k, x < m → k < L x → V x k < 2 * n

theorem InA.lt {n m : Nat} {L : Nat → Nat} {V : Nat → Nat → Nat} (h : InA n m L V) : ∀ e ∈ edgesA (lstsA m L V), e.1 < n ∧ e.2 < n := by
  refine edgesA_lt ?_
  intro l hl x hx
  simp [lstsA] at hl
  obtain ⟨i, hi, rfl⟩ := hl
  simp [lstA] at hx
  obtain ⟨k, hk, rfl⟩ := hx
  exact h.val i k hi hk

theorem InA.len {n m : Nat} {L : Nat → Nat} {V : Nat → Nat → Nat} (h : InA n m L V) : (edgesA (lstsA m L V)).length ≤ 4096 := by
  have h1 := edgesA_len (lstsA m L V)
  rw [lists_sum] at h1
  have := h.sum
  omega

theorem LaidA.of_below {w w' : World} {n m tb ob : Nat} {ib L : Nat → Nat} {V : Nat → Nat → Nat} (h : LaidA w n m tb ob ib L V) (hb : Below w.heap.size w w') : LaidA w' n m tb ob ib L V :=
  ⟨h.txs.of_block (hb.block _ h.txs.lt), h.outer.of_block (hb.block _ h.outer.lt), fun x hx => (h.inner x hx).of_block (hb.block _ (h.inner x hx).lt)⟩

def aggA (tb ob n m : Nat) : Value := .agg #[.slice (some ⟨tb, 0, none⟩) n n, .slice (some ⟨ob, 0, none⟩) m m]

/-- What the graph's lists are, once drawn. -/
def GrPost (n : Nat) (E : List (Nat × Nat)) (w : World) (lb : Nat) (w' : World) : Prop :=
  ∃ ab F, Below w.heap.size w w' ∧ w.heap.size ≤ lb ∧ w.heap.size ≤ ab ∧ lb ≠ ab ∧ SuccTo n E lb ab n F w'

theorem full46 (tb ob n m : Nat) (ib L : Nat → Nat) (V : Nat → Nat → Nat) (w : World) (hl : LaidA w n m tb ob ib L V) (hi : InA n m L V) :
    Calls Yba.prog 46 #[.int .i64 (n : Nat), .func (.func 33) #[aggA tb ob n m] #[]] w fun e w' => ∃ lb, e = .returned (.slice (some ⟨lb, 0, none⟩) n n) ∧ GrPost n (edgesA (lstsA m L V)) w lb w' := by
  have c43 := adj43 n 33 #[aggA tb ob n m] (edgesA (lstsA m L V)) (rdA ob m ib) w (fun w' hb => iter33 tb ob n m w'.heap.size ib L V w' 2 hi.n8 hi.m256 (fun x hx => Nat.le_trans (sumTo_get L hx) hi.sum) hi.val (hl.of_below hb).outer (hl.of_below hb).inner)
    (by
      rintro b (rfl | ⟨x, hx, rfl⟩)
      · exact hl.outer.lt
      · exact (hl.inner x hx).lt) (enters_of Yba.func33 (by kernel_rfl) rfl) hi.lt hi.n8 hi.len
  refine (succ46 n 33 _ _ w c43 (fun e he => (hi.lt e he).1) hi.n8 hi.len).mono ?_
  rintro e w' ⟨lb, ab, F, rfl, h1, h2, h3, h4, h5⟩
  exact ⟨lb, rfl, ab, F, h1, h2, h3, h4, h5⟩

theorem SuccTo.of_block {n : Nat} {E : List (Nat × Nat)} {lb ab u : Nat} {F : Nat → Int} {W W' : World} (h : SuccTo n E lb ab u F W) (h1 : W'.heap[lb]? = W.heap[lb]?) (h2 : W'.heap[ab]? = W.heap[ab]?) : SuccTo n E lb ab u F W' :=
  ⟨h.top.of_block h1, h.row.of_block h2, h.done, h.todo⟩

theorem row2_new (w : World) (x y : Value) (t : TypeId) : (w.alloc (.cells #[x, y] t)).rowIs w.heap.size t 2 (fun i => if i = 0 then x else y) :=
  World.rowIs_alloc w #[x, y] t (fun i => if i = 0 then x else y) (fun i hi => by
    match i, hi with
    | 0, _ => rfl
    | 1, _ => rfl)

set_option maxHeartbeats 2000000 in
theorem graph32 (tb ob n m : Nat) (ib L : Nat → Nat) (V : Nat → Nat → Nat) (w : World) (hl : LaidA w n m tb ob ib L V) (hi : InA n m L V) :
    Calls Yba.prog 32 #[.slice (some ⟨tb, 0, none⟩) n n, .func (.func 33) #[aggA tb ob n m] #[]] w fun e w' => ∃ lb, e = .returned (.agg #[.slice (some ⟨tb, 0, none⟩) n n, .slice (some ⟨lb, 0, none⟩) n n]) ∧ GrPost n (edgesA (lstsA m L V)) w lb w' := by
  have b0 := (Below.refl w.heap.size w).alloc (Nat.le_refl _) (.cells #[.slice none 0 0, .slice none 0 0] 39)
  have c46 := full46 tb ob n m ib L V _ (hl.of_below b0) hi
  have r0 := row2_new w (.slice none 0 0) (.slice none 0 0) 39
  have hs0 : (w.alloc (.cells #[.slice none 0 0, .slice none 0 0] 39)).heap.size = w.heap.size + 1 := by simp
  generalize aggA tb ob n m = ag at *
  go_enter Yba.func32, Yba.ntmps32
  go_wp2_with (go_at_call 46; refine c46.mono ?_; rintro e w1 ⟨lb, rfl, hg⟩; have r1 := r0.of_block (hg.choose_spec.choose_spec.1.block _ r0.lt); have k0 := r1.cell (i := 0) (Nat.zero_lt_two); have k1 := r1.cell (i := 1) (Nat.one_lt_two); have f0 := r1.frozen 0; have f1 := r1.frozen 1; have hl1 := r1.lt)
  obtain ⟨ab, F, h1, h2, h3, h4, h5⟩ := hg
  rw [hs0] at h2 h3
  have hr := (r1.set 0 (.slice (some ⟨tb, 0, none⟩) n n)).set 1 (.slice (some ⟨lb, 0, none⟩) n n)
  refine bodyPost_ret (ret39 Yba.results32 rfl hr) rfl ⟨lb, rfl, ab, F, ?_, by omega, by omega, h4, ?_⟩
  · exact ((b0.trans (h1.mono b0.size)).setCell (Nat.le_refl _) _).setCell (Nat.le_refl _) _
  · exact h5.of_block ((Below.heap_setCell _ _ _ _ (by simp; omega)).trans (Below.heap_setCell _ _ _ _ (by simp; omega))) ((Below.heap_setCell _ _ _ _ (by simp; omega)).trans (Below.heap_setCell _ _ _ _ (by simp; omega)))

end Go.Proofs.Ybulkbik
