import Derived.Test.YbulkbiyIW
import Derived.Test.YbulkbiyInsP
/-! A run over the tree, step by step: the tree as it stands, what is kept, what has grown. -/
namespace Go.Proofs.Ybulkbiy
open Go.RowKit Go.Maps Go.Sort

structure St (w0 : World) (D : List Nat) (C : Nat → Nd) (W : World) (D' : List Nat) (C' : Nat → Nd) (P' N' : Nat → Option Nat) (W' : World) : Prop where
  rep : Rep w0 D' C' P' N' W'
  keeps : Keeps D C W W'
  grows : Grows D C W D' C'

theorem St.refl {w0 : World} {D : List Nat} {C : Nat → Nd} {P N : Nat → Option Nat} {W : World} (h : Rep w0 D C P N W) : St w0 D C W D C P N W := ⟨h, ⟨Nat.le_refl _, fun _ _ _ => rfl⟩, Grows.refl _ _ _⟩

theorem St.trans {w0 : World} {D D1 D2 : List Nat} {C C1 C2 : Nat → Nd} {W W1 W2 : World} {P1 N1 P2 N2 : Nat → Option Nat} (h1 : St w0 D C W D1 C1 P1 N1 W1) (h2 : St w0 D1 C1 W1 D2 C2 P2 N2 W2) : St w0 D C W D2 C2 P2 N2 W2 :=
  ⟨h2.rep, h1.keeps.trans h1.grows h2.keeps, h1.grows.trans h1.keeps.1 h2.grows⟩

theorem upd_id {α : Type} (f : Nat → α) (b : Nat) : upd f b (f b) = f := by
  funext x
  unfold upd
  split
  · rename_i e; rw [e]
  · rfl

section
variable {w0 : World} {D : List Nat} {C : Nat → Nd} {P N : Nat → Option Nat} {W : World}

/-- Blocks that stood stand. -/
theorem Rep.below (h : Rep w0 D C P N W) {w' : World} (hb : Below W.heap.size W w') : St w0 D C W D C P N w' :=
  ⟨⟨h.bel.trans (hb.mono h.bel.size), fun b hd => (h.at_ b hd).same (fun _ hk => hb.block _ ((h.at_ b hd).lt hk)), h.new, h.sep, h.apart⟩, ⟨hb.size, fun k hk _ => hb.block k hk⟩, Grows.refl _ _ _⟩

theorem Rep.turn (h : Rep w0 D C P N W) {W' : World} {b : Nat} (hb : b ∈ D) {r : Nd} {p n : Option Nat} (hat : NodeAt w0.heap.size W' b r p n)
    (hbel : Below w0.heap.size w0 W') (hsize : W.heap.size ≤ W'.heap.size) (hkeep : ∀ k, k < W.heap.size → k ∉ blks (C b) b → W'.heap[k]? = W.heap[k]?) (hblk : ∀ k ∈ blks r b, k ∈ blks (C b) b ∨ W.heap.size ≤ k) (hsep : (blks r b).Nodup) :
    St w0 D C W D (upd C b r) (upd P b p) (upd N b n) W' :=
  ⟨h.update hb hat hbel hkeep hblk hsep, ⟨hsize, fun k hk hn => hkeep k hk (hn b hb)⟩, fun x hx k hk => by
    by_cases e : x = b
    · subst e
      rw [upd_same] at hk
      rcases hblk k hk with h1 | h1
      · exact .inl ⟨x, hx, h1⟩
      · exact .inr h1
    · rw [upd_other _ _ e] at hk
      exact .inl ⟨x, hx, hk⟩⟩

theorem Rep.grow (h : Rep w0 D C P N W) {W' : World} {b : Nat} {r : Nd} {p n : Option Nat} (hat : NodeAt w0.heap.size W' b r p n)
    (hbel : Below w0.heap.size w0 W') (hsize : W.heap.size ≤ W'.heap.size) (hkeep : ∀ k, k < W.heap.size → W'.heap[k]? = W.heap[k]?) (hblk : ∀ k ∈ blks r b, W.heap.size ≤ k) (hsep : (blks r b).Nodup) :
    St w0 D C W (b :: D) (upd C b r) (upd P b p) (upd N b n) W' :=
  ⟨h.more hat hbel hkeep hblk hsep, ⟨hsize, fun k hk _ => hkeep k hk⟩, fun x hx k hk => by
    by_cases e : x = b
    · subst e
      rw [upd_same] at hk
      exact .inr (hblk k hk)
    · rw [upd_other _ _ e] at hk
      exact .inl ⟨x, (List.mem_cons.1 hx).resolve_left e, hk⟩⟩

/-- A cell of a node's row is set: first, size, prev or next. -/
theorem Rep.setRow (h : Rep w0 D C P N W) {b : Nat} (hb : b ∈ D) {i : Nat} {u : Value} {fi sz : Int} {p n : Option Nat}
    (hc : ∀ k, k < 7 → (if k = i then u else ndCell (C b).nu (C b).va (C b).ch (C b).fi (C b).sz (P b) (N b) k) = ndCell (C b).nu (C b).va (C b).ch fi sz p n k) :
    St w0 D C W D (upd C b { C b with fi := fi, sz := sz }) (upd P b p) (upd N b n) (W.setCell ⟨b, i, none⟩ u) := by
  have nb := h.at_ b hb
  have hsep := h.sep b hb
  have hs2 := hsep
  simp only [blks, List.nodup_cons, List.mem_append, Option.mem_toList, not_or] at hs2
  refine h.turn hb ⟨(nb.row.set i u).congr hc, own_same nb.nums (fun k hk => Below.heap_setCell _ _ _ _ (fun (e : k = b) => hs2.1.1.1 (e ▸ hk))), own_same nb.vals (fun k hk => Below.heap_setCell _ _ _ _ (fun (e : k = b) => hs2.1.1.2 (e ▸ hk))),
    own_same nb.kids (fun k hk => Below.heap_setCell _ _ _ _ (fun (e : k = b) => hs2.1.2 (e ▸ hk)))⟩ (h.bel.setCell (h.new b hb) _) (by simp) (fun k hk hn => Below.heap_setCell _ _ _ _ (fun e => hn (by rw [e]; simp [blks]))) (fun k hk => .inl hk) hsep

theorem Rep.set3 (h : Rep w0 D C P N W) {b : Nat} (hb : b ∈ D) (x : Int) : St w0 D C W D (upd C b { C b with fi := x }) P N (W.setCell ⟨b, 3, none⟩ (.int .u64 x)) := by
  have := h.setRow hb (i := 3) (u := .int .u64 x) (fi := x) (sz := (C b).sz) (p := P b) (n := N b) (nd_set3 _ _ _ _ _ _ _ _)
  rw [upd_id, upd_id] at this
  exact this

theorem Rep.set4 (h : Rep w0 D C P N W) {b : Nat} (hb : b ∈ D) (x : Int) : St w0 D C W D (upd C b { C b with sz := x }) P N (W.setCell ⟨b, 4, none⟩ (.int .i64 x)) := by
  have := h.setRow hb (i := 4) (u := .int .i64 x) (fi := (C b).fi) (sz := x) (p := P b) (n := N b) (nd_set4 _ _ _ _ _ _ _ _)
  rw [upd_id, upd_id] at this
  exact this

theorem Rep.set5 (h : Rep w0 D C P N W) {b : Nat} (hb : b ∈ D) (x : Option Nat) : St w0 D C W D C (upd P b x) N (W.setCell ⟨b, 5, none⟩ (ptrV x)) := by
  have := h.setRow hb (i := 5) (u := ptrV x) (fi := (C b).fi) (sz := (C b).sz) (p := x) (n := N b) (nd_set5 _ _ _ _ _ _ _ _)
  rw [upd_id, upd_id] at this
  exact this

theorem Rep.set6 (h : Rep w0 D C P N W) {b : Nat} (hb : b ∈ D) (x : Option Nat) : St w0 D C W D C P (upd N b x) (W.setCell ⟨b, 6, none⟩ (ptrV x)) := by
  have := h.setRow hb (i := 6) (u := ptrV x) (fi := (C b).fi) (sz := (C b).sz) (p := P b) (n := x) (nd_set6 _ _ _ _ _ _ _ _)
  rw [upd_id, upd_id] at this
  exact this

/-- A leaf, ready for work. -/
theorem Rep.leaf (h : Rep w0 D C P N W) {b : Nat} (hb : b ∈ D) (hch : (C b).ch = .slice none 0 0) :
    LW w0.heap.size W (blks (C b) b) b (C b).nu (C b).va (C b).nu (C b).va (C b).xs.length (C b).xs.length ((C b).xs.map (Value.int .u64)) ((C b).xs.map (fun x => Value.int .u64 (vx x))) (C b).fi (C b).sz (P b) (N b) W := by
  have nb := h.at_ b hb
  have hsep := h.sep b hb
  simp only [blks, List.nodup_cons, List.mem_append, Option.mem_toList, not_or] at hsep
  refine ⟨by have := nb.row; rw [hch] at this; exact this, nb.nums, nb.vals, fun k hk => ⟨.inl (by simp [blks, hk]), fun e => hsep.1.1.1 (e ▸ hk)⟩, fun k hk => ⟨.inl (by simp [blks, hk]), fun e => hsep.1.1.2 (e ▸ hk)⟩, fun k hk hv => ?_, fun _ _ _ => rfl, Below.refl _ _, Nat.le_refl _, by simp [blks], h.new b hb, h.bel.size⟩
  have h2 := hsep.2
  rw [hk, hv] at h2
  simp at h2

/-- The leaf's work is done. -/
theorem LW.done (h : Rep w0 D C P N W) {b : Nat} (hb : b ∈ D) (hks : (C b).ks = []) {nu va : Value} {xs : List Int} {fi sz : Int} {p n : Option Nat} {w : World} {m1 m2 : Nat} {ns vs : List Value}
    (l : LW w0.heap.size W (blks (C b) b) b nu va nu va m1 m2 ns vs fi sz p n w) (h1 : m1 = xs.length) (h2 : m2 = xs.length) (hns : ns = xs.map (Value.int .u64)) (hvs : vs = xs.map (fun x => Value.int .u64 (vx x))) :
    St w0 D C W D (upd C b ⟨nu, va, .slice none 0 0, xs, [], fi, sz⟩) (upd P b p) (upd N b n) w := by
  subst h1 h2 hns hvs
  refine h.turn hb ⟨l.row, l.nums, l.vals, ?_⟩ (h.bel.trans l.bel) l.size l.keep (fun k hk => ?_) ?_
  · exact World.ownsRow_nil _ _ _ _
  · simp only [blks, List.mem_cons, List.mem_append, Option.mem_toList] at hk
    rcases hk with rfl | (hk | hk) | hk
    · exact .inl (by simp [blks])
    · exact (l.nn k hk).1
    · exact (l.vv k hk).1
    · simp [Value.ownBlock] at hk
  · show (b :: (nu.ownBlock.toList ++ va.ownBlock.toList ++ [])).Nodup
    rw [List.append_nil, List.nodup_cons, List.mem_append, Option.mem_toList, Option.mem_toList]
    refine ⟨fun e => e.elim (fun e => (l.nn b e).2 rfl) (fun e => (l.vv b e).2 rfl), ?_⟩
    have h1 := l.nv
    revert h1
    generalize nu.ownBlock = o1
    generalize va.ownBlock = o2
    cases o1 with
    | none => cases o2 <;> simp
    | some x => cases o2 with
      | none => simp
      | some y => simp; exact fun h e => h e.symm

/-- An inner node, ready for work. -/
theorem Rep.inner (h : Rep w0 D C P N W) {b : Nat} (hb : b ∈ D) :
    IW w0.heap.size W (b :: (C b).ch.ownBlock.toList) b (C b).nu (C b).va (C b).ch (C b).ch (C b).ks.length ((C b).ks.map (fun k => ptrV (some k))) (C b).fi (C b).sz (P b) (N b) W := by
  have nb := h.at_ b hb
  have hsep := h.sep b hb
  simp only [blks, List.nodup_cons, List.mem_append, Option.mem_toList, not_or] at hsep
  exact ⟨nb.row, nb.kids, fun k hk => ⟨.inl (by simp [hk]), fun e => hsep.1.2 (e ▸ hk)⟩, fun _ _ _ => rfl, Below.refl _ _, Nat.le_refl _, by simp, h.new b hb, h.bel.size⟩

theorem IW.done (h : Rep w0 D C P N W) {b : Nat} (hb : b ∈ D) {ch : Value} {ks : List Nat} {fi sz : Int} {p n : Option Nat} {w : World} {m : Nat} {cs : List Value}
    (l : IW w0.heap.size W (b :: (C b).ch.ownBlock.toList) b (C b).nu (C b).va ch ch m cs fi sz p n w) (h1 : m = ks.length) (hcs : cs = ks.map (fun k => ptrV (some k))) :
    St w0 D C W D (upd C b ⟨(C b).nu, (C b).va, ch, (C b).xs, ks, fi, sz⟩) (upd P b p) (upd N b n) w := by
  subst h1 hcs
  have nb := h.at_ b hb
  have hsep := h.sep b hb
  have hs2 := hsep
  simp only [blks, List.nodup_cons, List.mem_append, Option.mem_toList, not_or] at hs2
  have hna : ∀ k, (C b).nu.ownBlock = some k ∨ (C b).va.ownBlock = some k → k < W.heap.size ∧ k ∉ b :: (C b).ch.ownBlock.toList := fun k hk => by
    refine ⟨hk.elim (fun e => (nb.nums.lt k e).2) (fun e => (nb.vals.lt k e).2), fun hm => ?_⟩
    rcases List.mem_cons.1 hm with e | hm
    · subst e; exact hk.elim hs2.1.1.1 hs2.1.1.2
    · have h3 := hs2.2
      rw [List.nodup_append] at h3
      exact h3.2.2 k (by simpa using hk) k hm rfl
  refine h.turn hb ⟨l.row, own_same nb.nums (fun k hk => l.keep k (hna k (.inl hk)).1 (hna k (.inl hk)).2), own_same nb.vals (fun k hk => l.keep k (hna k (.inr hk)).1 (hna k (.inr hk)).2), l.kids⟩ (h.bel.trans l.bel) l.size (fun k hk hn => l.keep k hk (fun hm => hn ?_)) (fun k hk => ?_) ?_
  · simp only [blks, List.mem_cons, List.mem_append] at hm ⊢
    exact hm.elim .inl (fun e => .inr (.inr e))
  · simp only [blks, List.mem_cons, List.mem_append, Option.mem_toList] at hk ⊢
    rcases hk with rfl | (hk | hk) | hk
    · exact .inl (.inl rfl)
    · exact .inl (.inr (.inl (.inl hk)))
    · exact .inl (.inr (.inl (.inr hk)))
    · rcases (l.kk k hk).1 with h1 | h1
      · rcases List.mem_cons.1 h1 with rfl | h1
        · exact absurd rfl (l.kk _ hk).2
        · exact .inl (.inr (.inr (by simpa using h1)))
      · exact .inr h1
  · simp only [blks, List.nodup_cons, List.mem_append, Option.mem_toList, not_or]
    refine ⟨⟨hs2.1.1, fun e => (l.kk b e).2 rfl⟩, ?_⟩
    have h3 := hs2.2
    rw [List.nodup_append] at h3 ⊢
    refine ⟨h3.1, ?_, fun x hx y hy e => ?_⟩
    · cases ch.ownBlock <;> simp
    · subst e
      have hx' : (C b).nu.ownBlock = some x ∨ (C b).va.ownBlock = some x := by simpa using hx
      rcases (l.kk x (by simpa using hy)).1 with h1 | h1
      · exact (hna x hx').2 h1
      · have := (hna x hx').1; omega

/-- Only the row of a node turned (resum). -/
theorem RowB.done (h : Rep w0 D C P N W) {b : Nat} (hb : b ∈ D) {fi sz : Int} {w : World} (l : RowB w0 W b (C b).nu (C b).va (C b).ch fi sz (P b) (N b) w) :
    St w0 D C W D (upd C b { C b with fi := fi, sz := sz }) P N w := by
  have nb := h.at_ b hb
  have hsep := h.sep b hb
  have hs2 := hsep
  simp only [blks, List.nodup_cons, List.mem_append, Option.mem_toList, not_or] at hs2
  have := h.turn hb (r := { C b with fi := fi, sz := sz }) ⟨l.row, own_same nb.nums (fun k hk => l.rest k (nb.nums.lt k hk).2 (fun e => hs2.1.1.1 (e ▸ hk))), own_same nb.vals (fun k hk => l.rest k (nb.vals.lt k hk).2 (fun e => hs2.1.1.2 (e ▸ hk))),
    own_same nb.kids (fun k hk => l.rest k (nb.kids.lt k hk).2 (fun e => hs2.1.2 (e ▸ hk)))⟩ l.bel l.size (fun k hk hn => l.rest k hk (fun e => hn (by rw [e]; simp [blks]))) (fun k hk => .inl hk) hsep
  rw [upd_id, upd_id] at this
  exact this

end

end Go.Proofs.Ybulkbiy
