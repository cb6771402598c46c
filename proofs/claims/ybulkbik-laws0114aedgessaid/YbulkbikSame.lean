import Derived.Test.YbulkbikPlainE
import Derived.Test.YbulkbikShelfE
import Derived.Deep.DeepCutAuto
import Derived.Deep.CutRange
/-! slices.Equal (12, 24), zzs0114asame (13), the second call of sources.paths (11). -/
namespace Go.Proofs.Ybulkbik
attribute [local go_sem ↓] Go.wp_at_zero Go.wp_at_succ
open Go.RowKit Go.Maps Go.Sort

theorem allEq_self : ∀ l : List Int, Lib.allEq (fun x y => x == y) l l = true
  | [] => rfl
  | x :: l => by rw [Lib.allEq, allEq_self l]; simp

theorem eq12_zero (A B : Option Addr) (c d : Nat) (w : World) : Calls Yba.prog 12 #[.slice A 0 c, .slice B 0 d] w fun e w' => e = .returned (.bool true) ∧ ∃ q, w' = w.drewN q := by
  go_enter Yba.func12, Yba.ntmps12
  go_wp2_with fail
  go_loopw [13] (fun v wr => v = .int .i64 0 ∧ wr = w) (fun _ _ => 0)
  case atStart => exact ⟨rfl, rfl⟩
  case round =>
    obtain ⟨rfl, rfl⟩ := hrel
    go_wp2_with fail
    go_ret
    exact ⟨rfl, 0, rfl⟩

/-- Where a list of numbers lies. -/
def LiesA (w : World) (A : Option Addr) (l : List Int) : Prop := 0 < l.length → ∃ b o, A = some ⟨b, o, none⟩ ∧ ∀ j, j < l.length → w.cell? ⟨b, o + j, none⟩ = some (.int .i32 l[j]!)

theorem eq12 (A B : Option Addr) (c d : Nat) (l : List Int) (w : World) (hl : l.length ≤ 4096) (hA : LiesA w A l) (hB : LiesA w B l) :
    Calls Yba.prog 12 #[.slice A l.length c, .slice B l.length d] w fun e w' => e = .returned (.bool true) ∧ ∃ q, w' = w.drewN q := by
  by_cases h0 : 0 < l.length
  · obtain ⟨b1, o1, rfl, k1⟩ := hA h0
    obtain ⟨b2, o2, rfl, k2⟩ := hB h0
    have := AnyE.slices_Equal Yba.equalL (Value.int .i32) (fun x y => x == y) (NeqAt.int Yba.prog 21 .i32) b1 o1 l.length c b2 o2 l.length d l l w (Nat.le_refl _) (Nat.le_refl _) (by omega) (by omega) k1 k2
    rw [List.take_length, allEq_self] at this
    exact this
  · have e : l.length = 0 := by omega
    rw [e]
    exact eq12_zero A B c d w

theorem eq24 (tb n : Nat) (w : World) (hn : n ≤ 8) (h : w.rowIs tb 45 n (fun i => .int .i32 ((2 * i + 1 : Nat) : Int))) :
    Calls Yba.prog 24 #[.slice (some ⟨tb, 0, none⟩) n n, .slice (some ⟨tb, 0, none⟩) n n] w fun e w' => e = .returned (.bool true) ∧ ∃ q, w' = w.drewN q := by
  have hc : ∀ j, j < ((List.range n).map fun i : Nat => ((2 * i + 1 : Nat) : Int)).length → w.cell? ⟨tb, 0 + j, none⟩ = some (.int .i32 ((List.range n).map fun i : Nat => ((2 * i + 1 : Nat) : Int))[j]!) := by
    intro j hj
    have hj' : j < n := by simpa using hj
    rw [Nat.zero_add, h.cell hj', getElem!_pos _ j hj]
    simp
  have := AnyE.slices_Equal Yba.equalTxL (Value.int .i32) (fun x y => x == y) (NeqAt.int Yba.prog 45 .i32) tb 0 n n tb 0 n n _ _ w (by simp) (by simp) (by omega) (by omega) hc hc
  rw [allEq_self] at this
  exact this

/-- The lists of successors, as they lie when all is done. -/
theorem SuccTo.lies {n : Nat} {E : List (Nat × Nat)} {lb ab : Nat} {F : Nat → Int} {W : World} (h : SuccTo n E lb ab n F W) (hE : ∀ e ∈ E, e.1 < n ∧ e.2 < n) {v : Nat} (hv : v < n) :
    ∃ A, W.cell? ⟨lb, v, none⟩ = some (.slice A (csA E v).length (cntA E v)) ∧ LiesA W A (csA E v) := by
  obtain ⟨o, hsc, ho⟩ := scSl_at E ab v
  have tc := h.top.cell (i := v) hv
  rw [if_pos hv, hsc] at tc
  refine ⟨_, tc, fun h0 => ⟨ab, o, rfl, fun j hj => ?_⟩⟩
  rw [ho h0]
  have hcl := csA_len E v
  have hce := stA_end (fun e he => (hE e he).1) hv
  have := h.row.cell (i := stA E v + j) (by omega)
  rw [this, h.done v hv j hj]

theorem csA_short {E : List (Nat × Nat)} {v n : Nat} (hE : ∀ e ∈ E, e.1 < n ∧ e.2 < n) (hlen : E.length ≤ 4096) (hv : v < n) : (csA E v).length ≤ 4096 := by
  have hcl := csA_len E v
  have hce := stA_end (fun e he => (hE e he).1) hv
  omega

/-- What 'same' finds: two graphs of the same slices. -/
structure SameAt (w : World) (B tb lb ab n : Nat) (E : List (Nat × Nat)) (F : Nat → Int) (W : World) : Prop where
  g0 : W.rowIs B 39 2 (fun i => if i = 0 then .slice (some ⟨tb, 0, none⟩) n n else .slice (some ⟨lb, 0, none⟩) n n)
  g1 : W.rowIs (B + 1) 39 2 (fun i => if i = 0 then .slice (some ⟨tb, 0, none⟩) n n else .slice (some ⟨lb, 0, none⟩) n n)
  txs : W.rowIs tb 45 n (fun i => .int .i32 ((2 * i + 1 : Nat) : Int))
  succ : SuccTo n E lb ab n F W
  bel : Below w.heap.size w W

theorem SameAt.drew {w : World} {B tb lb ab n : Nat} {E : List (Nat × Nat)} {F : Nat → Int} {W : World} (h : SameAt w B tb lb ab n E F W) (q : Nat) : SameAt w B tb lb ab n E F (W.drewN q) :=
  ⟨h.g0, h.g1, h.txs, h.succ.of_block rfl rfl, below_drewN h.bel q⟩

set_option maxHeartbeats 2000000 in
set_option maxRecDepth 100000 in
/-- The graph that paths has given, and again. -/
theorem same13 (tb lb ab n : Nat) (E : List (Nat × Nat)) (F : Nat → Int) (w : World) (hn : n ≤ 8) (hE : ∀ e ∈ E, e.1 < n ∧ e.2 < n) (hlen : E.length ≤ 4096) (ht : w.rowIs tb 45 n (fun i => .int .i32 ((2 * i + 1 : Nat) : Int))) (hs : SuccTo n E lb ab n F w) :
    Calls Yba.prog 13 #[.agg #[.slice (some ⟨tb, 0, none⟩) n n, .slice (some ⟨lb, 0, none⟩) n n], .agg #[.slice (some ⟨tb, 0, none⟩) n n, .slice (some ⟨lb, 0, none⟩) n n]] w fun e w' => e = .returned (.bool true) ∧ Below w.heap.size w w' := by
  have S1 : SameAt w w.heap.size tb lb ab n E F ((w.alloc (.cells #[.slice (some ⟨tb, 0, none⟩) n n, .slice (some ⟨lb, 0, none⟩) n n] 39)).alloc (.cells #[.slice (some ⟨tb, 0, none⟩) n n, .slice (some ⟨lb, 0, none⟩) n n] 39)) := by
    have b0 := ((Below.refl w.heap.size w).alloc (Nat.le_refl _) (.cells #[.slice (some ⟨tb, 0, none⟩) n n, .slice (some ⟨lb, 0, none⟩) n n] 39)).alloc (by simp) (.cells #[.slice (some ⟨tb, 0, none⟩) n n, .slice (some ⟨lb, 0, none⟩) n n] 39)
    have g1 := row2_new (w.alloc (.cells #[.slice (some ⟨tb, 0, none⟩) n n, .slice (some ⟨lb, 0, none⟩) n n] 39)) (.slice (some ⟨tb, 0, none⟩) n n) (.slice (some ⟨lb, 0, none⟩) n n) 39
    simp only [World.size_alloc] at g1
    exact ⟨(row2_new w (.slice (some ⟨tb, 0, none⟩) n n) (.slice (some ⟨lb, 0, none⟩) n n) 39).alloc _, g1, (ht.alloc _).alloc _, hs.of_block (b0.block _ hs.top.lt) (b0.block _ hs.row.lt), b0⟩
  have HE : Hid _ := hE
  clear hE ht hs
  go_enter Yba.func13, Yba.ntmps13
  go_upto_region 1 with fail
  generalize (w.alloc (.cells #[.slice (some ⟨tb, 0, none⟩) n n, .slice (some ⟨lb, 0, none⟩) n n] 39)).alloc (.cells #[.slice (some ⟨tb, 0, none⟩) n n, .slice (some ⟨lb, 0, none⟩) n n] 39) = w1 at *
  generalize hB : w.heap.size = B at S1 ⊢
  have HB : Hid (w.heap.size = B) := hB
  clear hB
  have x0 := S1.g0.cell (i := 0) (by omega)
  have x1 := S1.g0.cell (i := 1) (by omega)
  have y0 := S1.g1.cell (i := 0) (by omega)
  have y1 := S1.g1.cell (i := 1) (by omega)
  rw [if_pos rfl] at x0 y0
  rw [if_neg (by omega)] at x1 y1
  have xl := S1.g0.lt
  have yl := S1.g1.lt
  have c24 := eq24 tb n w1 hn S1.txs
  have hnn : ((n : Int) != (n : Int)) = false := by simp
  go_wp2_with (go_at_call 24; refine c24.mono ?_; rintro e w2 ⟨rfl, q, rfl⟩; have S2 : SameAt w B tb lb ab n E F (w1.drewN q) := S1.drew q; have z1 : (w1.drewN q).cell? ⟨B, 1, none⟩ = some (.slice (some ⟨lb, 0, none⟩) n n) := x1; have u1 : (w1.drewN q).cell? ⟨B + 1, 1, none⟩ = some (.slice (some ⟨lb, 0, none⟩) n n) := y1; have zl := S2.g0.lt; have ul := S2.g1.lt; clear S1 x0 x1 y0 y1 xl yl c24; generalize w1.drewN q = w2 at *)
  go_loopw [24] (fun x wr => ∃ v : Nat, v ≤ n ∧ x = .int .i64 (v : Nat) ∧ SameAt w B tb lb ab n E F wr) (fun x _ => n - (intOf x).toNat)
  case atStart => exact ⟨0, Nat.zero_le _, rfl, S2⟩
  case round =>
    clear S2 z1 u1 zl ul
    obtain ⟨v, hv, rfl, S⟩ := hrel
    by_cases hlt : v < n
    · obtain ⟨A, tc, hA⟩ := S.succ.lies HE.out hlt
      have c12 : ∀ k, Calls Yba.prog 12 #[.slice A (csA E v).length (cntA E v), .slice A (csA E v).length (cntA E v)] (wr.drewN k) (fun e w' => e = .returned (.bool true) ∧ ∃ q, w' = (wr.drewN k).drewN q) := fun k => eq12 A A _ _ (csA E v) (wr.drewN k) (csA_short HE.out hlen hlt) hA hA
      generalize (csA E v).length = ln at tc c12
      generalize cntA E v = ct at tc c12
      have x1 := S.g0.cell (i := 1) (by omega)
      have y1 := S.g1.cell (i := 1) (by omega)
      rw [if_neg (by omega)] at x1 y1
      have xl := S.g0.lt
      have yl := S.g1.lt
      have tl := S.succ.top.lt
      have z1 : (0 : Int) ≤ (v : Int) := by omega
      have z2 : (v : Int) < (n : Int) := by omega
      go_wp2_with (go_quiet ((go_at_call 12; exact Calls.quiet_of (c12 _))))
      go_roundw
      case rel => exact ⟨v + 1, by omega, by go_num, S.drew _⟩
      case measure => simp [intOf]; omega
    · go_wp2_with fail
      go_ret
      exact ⟨rfl, S.bel⟩

set_option maxHeartbeats 2000000 in
/-- The next call of sources.paths: the graph that is kept. -/
theorem paths11b (sb ac gb tb lb n : Nat) (w : World) (hs : w.rowIs sb 37 5 (srcCell ac (some ⟨gb, 0, none⟩))) (hg : w.rowIs gb 39 2 (fun i => if i = 0 then .slice (some ⟨tb, 0, none⟩) n n else .slice (some ⟨lb, 0, none⟩) n n)) :
    Calls Yba.prog 11 #[.pointer (some ⟨sb, 0, none⟩)] w fun e w' => e = .returned (.agg #[.slice (some ⟨tb, 0, none⟩) n n, .slice (some ⟨lb, 0, none⟩) n n]) ∧ Below w.heap.size w w' := by
  have b0 := (Below.refl w.heap.size w).alloc (Nat.le_refl _) (.cells #[.slice none 0 0, .slice none 0 0] 39)
  have r0 := row2_new w (.slice none 0 0) (.slice none 0 0) 39
  have hs0 := hs.alloc (.cells #[.slice none 0 0, .slice none 0 0] 39)
  have hg0 := hg.alloc (.cells #[.slice none 0 0, .slice none 0 0] 39)
  have d2 := hs0.cell (i := 2) (by omega)
  rw [show srcCell ac (some ⟨gb, 0, none⟩) 2 = .pointer (some ⟨gb, 0, none⟩) from rfl] at d2
  have e0 := hg0.cell (i := 0) (by omega)
  have e1 := hg0.cell (i := 1) (by omega)
  rw [if_pos rfl] at e0
  rw [if_neg (by omega)] at e1
  have p3 := r0.cell (i := 0) (by omega)
  have p4 := r0.cell (i := 1) (by omega)
  have q3 := r0.frozen 0
  have q4 := r0.frozen 1
  have l0 := hs0.lt
  have l1 := hg0.lt
  have l2 := r0.lt
  clear hs hg
  generalize hw0 : w.alloc (.cells #[.slice none 0 0, .slice none 0 0] 39) = w0 at *
  go_enter Yba.func11, Yba.ntmps11
  go_wp2_with fail
  have hr := (r0.set 0 (.slice (some ⟨tb, 0, none⟩) n n)).set 1 (.slice (some ⟨lb, 0, none⟩) n n)
  exact bodyPost_ret (ret39 Yba.results11 rfl hr) rfl ⟨rfl, (b0.setCell (Nat.le_refl _) _).setCell (Nat.le_refl _) _⟩

end Go.Proofs.Ybulkbik
