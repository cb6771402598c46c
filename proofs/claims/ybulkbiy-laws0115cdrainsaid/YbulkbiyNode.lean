import Derived.Test.YbulkbiyArr2
/-! The tree's nodes in memory: a flat predicate over all nodes; core records and links apart. -/
namespace Go.Proofs.Ybulkbiy
open Go.RowKit Go.Maps Go.Sort

/-- What a node holds beside its links. -/
structure Nd where
  nu : Value
  va : Value
  ch : Value
  xs : List Int
  ks : List Nat
  fi : Int
  sz : Int

def ptrV : Option Nat → Value
  | none => .pointer none
  | some b => .pointer (some ⟨b, 0, none⟩)

/-- The value that goes with a number. -/
def vx (x : Int) : Int := bits .xor .u64 x 90

def ndCell (nu va ch : Value) (fi sz : Int) (p n : Option Nat) (i : Nat) : Value :=
  if i = 0 then nu else if i = 1 then va else if i = 2 then ch else if i = 3 then .int .u64 fi else if i = 4 then .int .i64 sz else if i = 5 then ptrV p else ptrV n

structure NodeAt (base : Nat) (W : World) (b : Nat) (r : Nd) (p n : Option Nat) : Prop where
  row : W.rowIs b 32 7 (ndCell r.nu r.va r.ch r.fi r.sz p n)
  nums : W.ownsRow base 23 1 r.nu r.xs.length (r.xs.map (Value.int .u64))
  vals : W.ownsRow base 23 1 r.va r.xs.length (r.xs.map (fun x => Value.int .u64 (vx x)))
  kids : W.ownsRow base 24 1 r.ch r.ks.length (r.ks.map (fun k => ptrV (some k)))

/-- A node's own blocks. -/
def blks (r : Nd) (b : Nat) : List Nat := b :: (r.nu.ownBlock.toList ++ r.va.ownBlock.toList ++ r.ch.ownBlock.toList)

theorem own_same {w w' : World} {base e size : Nat} {v : Value} {n : Nat} {xs : List Value} (h : w.ownsRow base e size v n xs) (hs : ∀ b, v.ownBlock = some b → w'.heap[b]? = w.heap[b]?) : w'.ownsRow base e size v n xs := by
  refine ⟨h.1, ?_⟩
  rcases h.2 with h0 | ⟨g, cap, cur, rfl, hb, hg, r⟩
  · exact .inl h0
  · exact .inr ⟨g, cap, cur, rfl, hb, (hs g rfl).trans hg, r⟩

theorem NodeAt.same {base : Nat} {W W' : World} {b : Nat} {r : Nd} {p n : Option Nat} (h : NodeAt base W b r p n) (hs : ∀ k ∈ blks r b, W'.heap[k]? = W.heap[k]?) : NodeAt base W' b r p n where
  row := h.row.of_block (hs b (by simp [blks]))
  nums := own_same h.nums (fun k hk => hs k (by simp [blks, hk]))
  vals := own_same h.vals (fun k hk => hs k (by simp [blks, hk]))
  kids := own_same h.kids (fun k hk => hs k (by simp [blks, hk]))

theorem NodeAt.lt {base : Nat} {W : World} {b : Nat} {r : Nd} {p n : Option Nat} (h : NodeAt base W b r p n) {k : Nat} (hk : k ∈ blks r b) : k < W.heap.size := by
  simp only [blks, List.mem_cons, List.mem_append, Option.mem_toList] at hk
  rcases hk with rfl | (hk | hk) | hk
  · exact h.row.lt
  · exact (h.nums.lt k hk).2
  · exact (h.vals.lt k hk).2
  · exact (h.kids.lt k hk).2

/-- All nodes of the tree, as they lie. -/
structure Rep (w0 : World) (D : List Nat) (C : Nat → Nd) (P N : Nat → Option Nat) (W : World) : Prop where
  bel : Below w0.heap.size w0 W
  at_ : ∀ b ∈ D, NodeAt w0.heap.size W b (C b) (P b) (N b)
  new : ∀ b ∈ D, w0.heap.size ≤ b
  sep : ∀ b ∈ D, (blks (C b) b).Nodup
  apart : ∀ b ∈ D, ∀ c ∈ D, b ≠ c → ∀ k ∈ blks (C b) b, k ∉ blks (C c) c

def upd {α : Type} (f : Nat → α) (b : Nat) (v : α) (x : Nat) : α := if x = b then v else f x
theorem upd_same {α : Type} (f : Nat → α) (b : Nat) (v : α) : upd f b v b = v := if_pos rfl
theorem upd_other {α : Type} (f : Nat → α) {b x : Nat} (v : α) (h : x ≠ b) : upd f b v x = f x := if_neg h

/-- One node turned, in its own blocks and new ones. -/
theorem Rep.update {w0 : World} {D : List Nat} {C : Nat → Nd} {P N : Nat → Option Nat} {W W' : World} (h : Rep w0 D C P N W) {b : Nat} (hb : b ∈ D) {r : Nd} {p n : Option Nat} (hat : NodeAt w0.heap.size W' b r p n)
    (hbel : Below w0.heap.size w0 W') (hkeep : ∀ k, k < W.heap.size → k ∉ blks (C b) b → W'.heap[k]? = W.heap[k]?) (hblk : ∀ k ∈ blks r b, k ∈ blks (C b) b ∨ W.heap.size ≤ k) (hsep : (blks r b).Nodup) :
    Rep w0 D (upd C b r) (upd P b p) (upd N b n) W' where
  bel := hbel
  at_ := fun x hx => by
    by_cases e : x = b
    · subst e; rw [upd_same, upd_same, upd_same]; exact hat
    · rw [upd_other _ _ e, upd_other _ _ e, upd_other _ _ e]
      exact (h.at_ x hx).same (fun k hk => hkeep k ((h.at_ x hx).lt hk) (h.apart x hx b hb e k hk))
  new := h.new
  sep := fun x hx => by
    by_cases e : x = b
    · subst e; rw [upd_same]; exact hsep
    · rw [upd_other _ _ e]; exact h.sep x hx
  apart := fun x hx y hy hne k hk => by
    by_cases ex : x = b
    · subst ex
      rw [upd_same] at hk
      rw [upd_other _ _ (fun e => hne e.symm)]
      rcases hblk k hk with h1 | h1
      · exact h.apart x hx y hy hne k h1
      · intro h2
        have := (h.at_ y hy).lt h2
        omega
    · rw [upd_other _ _ ex] at hk
      by_cases ey : y = b
      · subst ey
        rw [upd_same]
        intro h2
        rcases hblk k h2 with h1 | h1
        · exact h.apart x hx y hy hne k hk h1
        · have := (h.at_ x hx).lt hk
          omega
      · rw [upd_other _ _ ey]; exact h.apart x hx y hy hne k hk

/-- A new node. -/
theorem Rep.more {w0 : World} {D : List Nat} {C : Nat → Nd} {P N : Nat → Option Nat} {W W' : World} (h : Rep w0 D C P N W) {b : Nat} {r : Nd} {p n : Option Nat} (hat : NodeAt w0.heap.size W' b r p n)
    (hbel : Below w0.heap.size w0 W') (hkeep : ∀ k, k < W.heap.size → W'.heap[k]? = W.heap[k]?) (hblk : ∀ k ∈ blks r b, W.heap.size ≤ k) (hsep : (blks r b).Nodup) :
    Rep w0 (b :: D) (upd C b r) (upd P b p) (upd N b n) W' := by
  have hbn : W.heap.size ≤ b := hblk b (by simp [blks])
  have hne : ∀ x ∈ D, x ≠ b := fun x hx e => by
    have := (h.at_ x hx).row.lt
    omega
  refine ⟨hbel, fun x hx => ?_, fun x hx => ?_, fun x hx => ?_, fun x hx y hy hxy k hk => ?_⟩
  · by_cases e : x = b
    · subst e; rw [upd_same, upd_same, upd_same]; exact hat
    · rw [upd_other _ _ e, upd_other _ _ e, upd_other _ _ e]
      have hx' := (List.mem_cons.1 hx).resolve_left e
      exact (h.at_ x hx').same (fun k hk => hkeep k ((h.at_ x hx').lt hk))
  · rcases List.mem_cons.1 hx with rfl | hx'
    · exact Nat.le_trans h.bel.size hbn
    · exact h.new x hx'
  · by_cases e : x = b
    · subst e; rw [upd_same]; exact hsep
    · rw [upd_other _ _ e]; exact h.sep x ((List.mem_cons.1 hx).resolve_left e)
  · by_cases ex : x = b
    · subst ex
      rw [upd_same] at hk
      rw [upd_other _ _ (fun e => hxy e.symm)]
      intro h2
      have := (h.at_ y ((List.mem_cons.1 hy).resolve_left (fun e => hxy e.symm))).lt h2
      have := hblk k hk
      omega
    · rw [upd_other _ _ ex] at hk
      have hx' := (List.mem_cons.1 hx).resolve_left ex
      by_cases ey : y = b
      · subst ey
        rw [upd_same]
        intro h2
        have := (h.at_ x hx').lt hk
        have := hblk k h2
        omega
      · rw [upd_other _ _ ey]; exact h.apart x hx' y ((List.mem_cons.1 hy).resolve_left ey) hxy k hk

/-- What a call over the tree leaves alone. -/
def Keeps (D : List Nat) (C : Nat → Nd) (W W' : World) : Prop := W.heap.size ≤ W'.heap.size ∧ ∀ k, k < W.heap.size → (∀ b ∈ D, k ∉ blks (C b) b) → W'.heap[k]? = W.heap[k]?

/-- The blocks of the tree after a call: those of before, and new ones. -/
def Grows (D : List Nat) (C : Nat → Nd) (W : World) (D' : List Nat) (C' : Nat → Nd) : Prop := ∀ b ∈ D', ∀ k ∈ blks (C' b) b, (∃ c ∈ D, k ∈ blks (C c) c) ∨ W.heap.size ≤ k

theorem Grows.refl (D : List Nat) (C : Nat → Nd) (W : World) : Grows D C W D C := fun b hb _ hk => .inl ⟨b, hb, hk⟩

theorem Keeps.trans {D : List Nat} {C : Nat → Nd} {W W1 W2 : World} {D1 : List Nat} {C1 : Nat → Nd} (h1 : Keeps D C W W1) (g1 : Grows D C W D1 C1) (h2 : Keeps D1 C1 W1 W2) : Keeps D C W W2 :=
  ⟨Nat.le_trans h1.1 h2.1, fun k hk hn => (h2.2 k (Nat.lt_of_lt_of_le hk h1.1) (fun b hb hkb => by
    rcases g1 b hb k hkb with ⟨c, hc, hkc⟩ | h
    · exact hn c hc hkc
    · omega)).trans (h1.2 k hk hn)⟩

theorem Grows.trans {D : List Nat} {C : Nat → Nd} {W W1 : World} {D1 D2 : List Nat} {C1 C2 : Nat → Nd} (g1 : Grows D C W D1 C1) (hs : W.heap.size ≤ W1.heap.size) (g2 : Grows D1 C1 W1 D2 C2) : Grows D C W D2 C2 := fun b hb k hk => by
  rcases g2 b hb k hk with ⟨c, hc, hkc⟩ | h
  · exact g1 c hc k hkc
  · exact .inr (by omega)

end Go.Proofs.Ybulkbiy
