import Derived.Test.YbulkbikIter
import Derived.Maps.OwnIn
/-! What the callers of 'reads' gather. -/
namespace Go.Proofs.Ybulkbik
attribute [local go_sem ↓] Go.wp_at_zero Go.wp_at_succ
open Go.RowKit Go.Maps

theorem own_same {w w' : World} {base e size : Nat} {v : Value} {n : Nat} {xs : List Value} (h : w.ownsRow base e size v n xs) (hs : ∀ b, v.ownBlock = some b → w'.heap[b]? = w.heap[b]?) : w'.ownsRow base e size v n xs := by
  refine ⟨h.1, ?_⟩
  rcases h.2 with h0 | ⟨g, cap, cur, rfl, hb, hg, r⟩
  · exact .inl h0
  · exact .inr ⟨g, cap, cur, rfl, hb, (hs g rfl).trans hg, r⟩

theorem Held.refl (M : Nat → Prop) (W : World) : Held M W W := ⟨rfl, rfl, rfl, Nat.le_refl _, fun _ _ _ => rfl⟩
theorem Held.grown {M : Nat → Prop} {U W W' : World} {row : Option Nat} (h : Held M U W) (hg : W.grownBy W' row) (hr : ∀ r, row = some r → M r ∨ U.heap.size ≤ r) : Held M U W' :=
  ⟨hg.os.trans h.os, hg.tape.trans h.tape, hg.output.trans h.output, Nat.le_trans h.size hg.size, fun b hb hm => (hg.block b (Nat.lt_of_lt_of_le hb h.size) (fun e => by
    rcases hr b e.symm with h1 | h1
    · exact hm h1
    · omega)).trans (h.held b hb hm)⟩
theorem Held.alloc {M : Nat → Prop} {U W : World} (h : Held M U W) (o : Obj) : Held M U (W.alloc o) := h.grown (World.grownBy_alloc W o none) (fun r e => by cases e)
theorem Held.setCell {M : Nat → Prop} {U W : World} (h : Held M U W) {a : Addr} (v : Value) (hm : M a.block) : Held M U (W.setCell a v) := h.grown (grownBy_setCellAny W a v) (fun r e => by cases e; exact .inl hm)

/-- The pairs that have come, as values. -/
def gotI (o : BOps) (n k : Nat) : List Value := ((readsB o n).take k).map (fun (i : Nat) => Value.int .i64 (i : Int))
def gotW (o : BOps) (n k : Nat) : List Value := ((readsB o n).take k).map (fun i => Value.int .i32 (writerB o i))

theorem gotI_succ {o : BOps} {n k i : Nat} (h : (readsB o n)[k]? = some i) : gotI o n (k + 1) = gotI o n k ++ [.int .i64 (i : Int)] := by
  unfold gotI; rw [List.take_add_one, h]; simp
theorem gotW_succ {o : BOps} {n k i : Nat} (h : (readsB o n)[k]? = some i) : gotW o n (k + 1) = gotW o n k ++ [.int .i32 (writerB o i)] := by
  unfold gotW; rw [List.take_add_one, h]; simp

def gathM (gB wB : Nat) (a1 : Option Addr) (c1 : Nat) (a2 : Option Addr) (c2 k b : Nat) : Prop := b = gB ∨ b = wB ∨ (Value.slice a1 k c1).ownBlock = some b ∨ (Value.slice a2 k c2).ownBlock = some b

/-- What the caller holds after k rounds. -/
structure Gather (K S : Nat → ByteArray) (T : Nat → Int) (n ob gB wB base : Nat) (w : World) (a1 : Option Addr) (c1 : Nat) (a2 : Option Addr) (c2 k : Nat) (W : World) : Prop where
  gi : Boxed W gB 53 (.slice a1 k c1)
  gw : Boxed W wB 43 (.slice a2 k c2)
  own1 : W.ownsRow base 3 1 (.slice a1 k c1) k (gotI (bops K S T n) n k)
  own2 : W.ownsRow base 21 1 (.slice a2 k c2) k (gotW (bops K S T n) n k)
  ops : W.rowIs ob 76 (n * 3) (opCell K T S)
  bel : Below w.heap.size w W
  sz : base ≤ W.heap.size

theorem Gather.turn {K S T n ob gB wB base w a1 c1 a2 c2 k W W'} (h : Gather K S T n ob gB wB base w a1 c1 a2 c2 k W) {B X : Nat} (ht : Turn (gathM gB wB a1 c1 a2 c2 k) B X W W') (hob : ob < B ∧ ob ≠ X) (hw : w.heap.size ≤ B) (hX : w.heap.size ≤ X) : Gather K S T n ob gB wB base w a1 c1 a2 c2 k W' := by
  refine ⟨?_, ?_, ?_, ?_, ?_, ?_, Nat.le_trans h.sz ht.size⟩
  · exact (ht.held gB h.gi.lt (.inl (.inl rfl))).trans h.gi
  · exact (ht.held wB h.gw.lt (.inl (.inr (.inl rfl)))).trans h.gw
  · exact own_same h.own1 (fun b hb => ht.held b (h.own1.lt b hb).2 (.inl (.inr (.inr (.inl hb)))))
  · exact own_same h.own2 (fun b hb => ht.held b (h.own2.lt b hb).2 (.inl (.inr (.inr (.inr hb)))))
  · exact h.ops.of_block (ht.held ob h.ops.lt (.inr hob))
  · exact h.bel.trans ⟨ht.os, ht.tape, ht.output, ht.size, fun b hb => ht.held b (Nat.lt_of_lt_of_le hb h.bel.size) (.inr ⟨by omega, by omega⟩)⟩

theorem Gather.mlt {K S T n ob gB wB base w a1 c1 a2 c2 k W} (h : Gather K S T n ob gB wB base w a1 c1 a2 c2 k W) : ∀ b, gathM gB wB a1 c1 a2 c2 k b → b < W.heap.size := by
  rintro b (rfl | rfl | hb | hb)
  · exact h.gi.lt
  · exact h.gw.lt
  · exact (h.own1.lt b hb).2
  · exact (h.own2.lt b hb).2

theorem boxed_set_other {W : World} {B : Nat} {t : TypeId} {v : Value} (h : Boxed W B t v) {a : Addr} (ha : B ≠ a.block) (u : Value) : Boxed (W.setCell a u) B t v := (Below.heap_setCell _ _ _ _ ha).trans h

theorem own_set_other {w : World} {base e size : Nat} {v : Value} {n : Nat} {xs : List Value} (h : w.ownsRow base e size v n xs) {a : Addr} (ha : a.block < base) (u : Value) : (w.setCell a u).ownsRow base e size v n xs :=
  own_same h (fun b hb => Below.heap_setCell _ _ _ _ (fun e => by have := (h.lt b hb).1; omega))

/-- One round. -/
theorem Gather.step {K S T n ob gB wB base w a1 c1 a2 c2 k W} (h : Gather K S T n ob gB wB base w a1 c1 a2 c2 k W) {i : Nat} (hi : (readsB (bops K S T n) n)[k]? = some i) (hgb : gB < base) (hwb : wB < base) (hgw : gB ≠ wB) (hob : ob < base ∧ ob ≠ gB ∧ ob ≠ wB) (hwl : w.heap.size ≤ gB ∧ w.heap.size ≤ wB ∧ w.heap.size ≤ base) (O1 O2 : Obj) {w1 w3 : World} {a3 a4 : Option Addr} {c3 c4 : Nat}
    (hg1 : (W.alloc O1).grownBy w1 (Value.slice a1 k c1).ownBlock) (own1' : w1.ownsRow base 3 1 (.slice a3 (k + 1) c3) (k + 1) (gotI (bops K S T n) n k ++ [.int .i64 (i : Int)])) (at1 : (Value.slice a3 (k + 1) c3).ownBlock = (Value.slice a1 k c1).ownBlock ∨ (Value.slice a3 (k + 1) c3).ownBlock = some (W.alloc O1).heap.size)
    (hg2 : ((w1.setCell ⟨gB, 0, none⟩ (.slice a3 (k + 1) c3)).alloc O2).grownBy w3 (Value.slice a2 k c2).ownBlock) (own2' : w3.ownsRow base 21 1 (.slice a4 (k + 1) c4) (k + 1) (gotW (bops K S T n) n k ++ [.int .i32 (writerB (bops K S T n) i)])) (at2 : (Value.slice a4 (k + 1) c4).ownBlock = (Value.slice a2 k c2).ownBlock ∨ (Value.slice a4 (k + 1) c4).ownBlock = some ((w1.setCell ⟨gB, 0, none⟩ (.slice a3 (k + 1) c3)).alloc O2).heap.size) :
    Gather K S T n ob gB wB base w a3 c3 a4 c4 (k + 1) (w3.setCell ⟨wB, 0, none⟩ (.slice a4 (k + 1) c4)) ∧ Held (gathM gB wB a1 c1 a2 c2 k) W (w3.setCell ⟨wB, 0, none⟩ (.slice a4 (k + 1) c4)) ∧ ∀ b, gathM gB wB a3 c3 a4 c4 (k + 1) b → gathM gB wB a1 c1 a2 c2 k b ∨ W.heap.size ≤ b := by
  have n1 : ∀ b, b < base → some b ≠ (Value.slice a1 k c1).ownBlock := fun b hb => own_lt_ne h.own1 hb
  have n2 : ∀ b, b < base → some b ≠ (Value.slice a2 k c2).ownBlock := fun b hb => own_lt_ne h.own2 hb
  have s1 := hg1.size
  have s2 := hg2.size
  simp at s1 s2
  have hsz := h.sz
  have own2a := (h.own2.alloc O1).kept hg1 (own_apart (h.own2.alloc O1) (h.own1.alloc O1) (by decide))
  have own2b := (own_set_other own2a (a := ⟨gB, 0, none⟩) hgb (.slice a3 (k + 1) c3)).alloc O2
  have gi1 : Boxed (w1.setCell ⟨gB, 0, none⟩ (.slice a3 (k + 1) c3)) gB 53 (.slice a3 (k + 1) c3) := ((h.gi.alloc O1).kept hg1 (n1 _ hgb)).set _
  have gw1 : Boxed w1 wB 43 (.slice a2 k c2) := (h.gw.alloc O1).kept hg1 (n1 _ hwb)
  have gi2 : Boxed w3 gB 53 (.slice a3 (k + 1) c3) := (gi1.alloc O2).kept hg2 (n2 _ hgb)
  have gw2 : Boxed w3 wB 43 (.slice a2 k c2) := ((boxed_set_other gw1 (by simp; omega) _).alloc O2).kept hg2 (n2 _ hwb)
  have o1a := (own_set_other own1' (a := ⟨gB, 0, none⟩) hgb (.slice a3 (k + 1) c3)).alloc O2
  have o1b := o1a.kept hg2 (own_apart o1a own2b (by decide))
  refine ⟨⟨?_, ?_, ?_, ?_, ?_, ?_, ?_⟩, ?_, ?_⟩
  · exact boxed_set_other gi2 (by simp; omega) _
  · exact gw2.set _
  · rw [gotI_succ hi]; exact own_set_other o1b hwb _
  · rw [gotW_succ hi]; exact own_set_other own2' hwb _
  · exact (rowIs_grown (((rowIs_grown (h.ops.alloc O1) hg1 (n1 _ hob.1)).setOther (by simp; omega) _).alloc O2) hg2 (n2 _ hob.1)).setOther (by simp; omega) _
  · refine ((((h.bel.alloc (by omega) O1).grown hg1 (by simp; omega) (fun j hj => by have := (h.own1.lt j hj).1; omega)).setCell (by simp; omega) _).alloc (by simp; omega) O2).grown hg2 (by simp; omega) (fun j hj => by have := (h.own2.lt j hj).1; omega) |>.setCell (by simp; omega) _
  · simp; omega
  · exact ((((((Held.refl _ W).alloc O1).grown hg1 (fun r e => .inl (.inr (.inr (.inl e))))).setCell _ (.inl rfl)).alloc O2).grown hg2 (fun r e => .inl (.inr (.inr (.inr e))))).setCell _ (.inr (.inl rfl))
  · rintro b (e | e | hb | hb)
    · exact .inl (.inl e)
    · exact .inl (.inr (.inl e))
    · rcases at1 with e | e
      · exact .inl (.inr (.inr (.inl (e ▸ hb))))
      · rw [e] at hb; simp at hb; right; omega
    · rcases at2 with e | e
      · exact .inl (.inr (.inr (.inr (e ▸ hb))))
      · rw [e] at hb; simp at hb; right; omega

end Go.Proofs.Ybulkbik
