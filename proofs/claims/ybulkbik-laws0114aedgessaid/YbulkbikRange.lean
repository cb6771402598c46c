import Derived.RangeFuncNested
import Derived.RangeFuncBound
import Derived.RangeFuncCalls
import Derived.RangeFuncLeaves
import Derived.RangeFuncBox
import Derived.Deep.Draws
namespace Go.Proofs.Ybulkbik
open Go.RowKit

variable {F : Fence} {n : Nat} {P : Program}

/-- What the iterator's own steps keep: whatever the caller holds (M), and whatever lay below B, but for block X. -/
structure Turn (M : Nat → Prop) (B X : Nat) (W W' : World) : Prop where
  os : W'.os = W.os
  tape : W'.tape = W.tape
  output : W'.output = W.output
  size : W.heap.size ≤ W'.heap.size
  held : ∀ b, b < W.heap.size → (M b ∨ (b < B ∧ b ≠ X)) → W'.heap[b]? = W.heap[b]?

/-- What a round keeps: whatever the caller does not hold. -/
structure Held (M : Nat → Prop) (W W' : World) : Prop where
  os : W'.os = W.os
  tape : W'.tape = W.tape
  output : W'.output = W.output
  size : W.heap.size ≤ W'.heap.size
  held : ∀ b, b < W.heap.size → ¬ M b → W'.heap[b]? = W.heap[b]?

theorem Turn.refl (M : Nat → Prop) (B X : Nat) (W : World) : Turn M B X W W := ⟨rfl, rfl, rfl, Nat.le_refl _, fun _ _ _ => rfl⟩
theorem Turn.trans {M : Nat → Prop} {B X : Nat} {U V W : World} (h : Turn M B X U V) (k : Turn M B X V W) : Turn M B X U W :=
  ⟨k.os.trans h.os, k.tape.trans h.tape, k.output.trans h.output, Nat.le_trans h.size k.size, fun b hb hm => (k.held b (Nat.lt_of_lt_of_le hb h.size) hm).trans (h.held b hb hm)⟩
theorem Turn.of_grownBy {M : Nat → Prop} {B X : Nat} {W W' : World} {row : Option Nat} (hg : W.grownBy W' row) (hr : ∀ r, row = some r → ¬ M r ∧ (r < B → r = X)) : Turn M B X W W' :=
  ⟨hg.os, hg.tape, hg.output, hg.size, fun b hb hm => hg.block b hb (fun e => by
    obtain ⟨h1, h2⟩ := hr b e.symm
    rcases hm with h | ⟨h3, h4⟩
    · exact h1 h
    · exact h4 (h2 h3))⟩
theorem Turn.alloc {M : Nat → Prop} {B X : Nat} {U W : World} (h : Turn M B X U W) (o : Obj) : Turn M B X U (W.alloc o) :=
  h.trans (Turn.of_grownBy (World.grownBy_alloc W o none) (fun r e => by cases e))
theorem grownBy_setCellAny (W : World) (a : Addr) (v : Value) : W.grownBy (W.setCell a v) (some a.block) :=
  ⟨rfl, rfl, rfl, by simp, fun k _ hk => Below.heap_setCell _ _ _ k (fun e => hk (by rw [e]))⟩
theorem Turn.setCell {M : Nat → Prop} {B X : Nat} {U W : World} (h : Turn M B X U W) {a : Addr} (v : Value) (h1 : ¬ M a.block) (h2 : a.block < B → a.block = X) : Turn M B X U (W.setCell a v) :=
  h.trans (Turn.of_grownBy (grownBy_setCellAny W a v) (fun r e => by cases e; exact ⟨h1, h2⟩))
theorem Turn.drewN {M : Nat → Prop} {B X : Nat} {U W : World} (h : Turn M B X U W) (q : Nat) : Turn M B X U (W.drewN q) :=
  h.trans ⟨rfl, rfl, rfl, Nat.le_refl _, fun _ _ _ => rfl⟩
theorem Turn.less {M M' : Nat → Prop} {B B' X : Nat} {U W : World} (h : Turn M B X U W) (hM : ∀ b, M' b → M b) (hB : B' ≤ B) : Turn M' B' X U W :=
  ⟨h.os, h.tape, h.output, h.size, fun b hb hm => h.held b hb (hm.elim (fun m => .inl (hM b m)) (fun m => .inr ⟨Nat.lt_of_lt_of_le m.1 hB, m.2⟩))⟩

/-- The contract of an iterator that keeps a state of its own in cells. R: the blocks that it reads and that lie when it is called; X: the one of them that it turns. J k M W: k rounds have come; M: the blocks that the caller holds. -/
def SeqM {α : Type} (F : Fence) (n : Nat) (P : Program) (gf : Nat) (lb : Array Value) (encs : α → Array Value) (xs : List α) (R : Nat → Prop) (X : Nat) (w : World) : Prop :=
  ∀ (l : Nat) (J : Nat → (Nat → Prop) → World → Prop) (Jx : World → Prop) (M : Nat → Prop) (W : World), Below w.heap.size w W → (∀ b, R b → ¬ M b) →
    (∀ k M A B, J k M A → Turn M W.heap.size X A B → J k M B) →
    (∀ k M A, J k M A → ∀ b, M b → b < A.heap.size) →
    (∀ k x M A, xs[k]? = some x → J k M A → YieldAt F (n - 1) P l (encs x) A fun e A' =>
      (e = .returned (.bool true) ∧ ∃ M', J (k + 1) M' A' ∧ Held M A A' ∧ ∀ b, M' b → M b ∨ A.heap.size ≤ b) ∨ (e = .returned (.bool false) ∧ Jx A')) →
    J 0 M W →
    CallsIn F n P gf (#[.func (.yield l) #[] #[]] ++ lb) W fun e W' => (∃ v, e = .returned v) ∧ ((∃ M, J xs.length M W') ∨ Jx W')

/-- How the body of a round may be left. -/
def postM (I : Nat → (Nat → Prop) → World → Prop) (Ix : Code → World → Prop) (k : Nat) (M : Nat → Prop) (W : World) : Exit → Act → World → Prop
  | .normal, _, W' => ∃ M', I (k + 1) M' W' ∧ Held M W W' ∧ ∀ b, M' b → M b ∨ W.heap.size ≤ b
  | .ret, _, W' => Held M W W' ∧ Ix .ret W'
  | .exit id, _, W' => Held M W W' ∧ Ix (.exit id) W'
  | .goto t, _, W' => Held M W W' ∧ Ix (.goto t) W'
  | .panic _, _, _ => False
  | .outgrown, _, _ => False

theorem turn_putObj {M : Nat → Prop} {B X : Nat} (W : World) (l : Nat) (o : Obj) (h1 : ¬ M l) (h2 : B ≤ l) : Turn M B X W (W.putObj l o) :=
  ⟨rfl, rfl, rfl, by simp, fun b _ hm => World.putObj_heap_other (fun e => by
    subst e
    rcases hm with h | h
    · exact h1 h
    · omega)⟩

/-- A range over such an iterator. -/
theorem wpIn_rangeFunc_M {α : Type} {g : Operand} {ps : Array Tmp} {assign body : Code} {Q : Exit → Act → World → Prop} {a : Act} {w : World}
    (hro : F.round = none) (h1 : F.depth.isSome = true → 1 ≤ n) {gf : Nat} {lb : Array Value} (hg : a.eval g = .func (.func gf) #[] lb) (hFg : F.fn gf) (eg : ∀ args w, (callFunc gf args).run P w = .ok (.enter gf args) w)
    {encs : α → Array Value} {xs : List α} {R : Nat → Prop} {X : Nat} (hseq : SeqM F (n - 1) P gf lb encs xs R X w) (hR : ∀ b, R b → b < w.heap.size)
    (hps : ∀ x, (encs x).size = ps.size)
    (I : Nat → (Nat → Prop) → World → Prop) (Ix : Code → World → Prop) (M0 : Nat → Prop) (hM0 : ∀ b, M0 b → b < w.heap.size ∧ ¬ R b)
    (hI : ∀ k M A B, I k M A → Turn M w.heap.size X A B → I k M B) (hIb : ∀ k M A, I k M A → ∀ b, M b → b < A.heap.size)
    (hIx : ∀ c A r o, Ix c A → A.heap[w.heap.size + 1]? = some (.loop r) → Ix c (A.putObj (w.heap.size + 1) o))
    (h0 : I 0 M0 w) (a₁ : α → Act)
    (hassign : ∀ (l : Nat) (x : α) (W : World) (K : Act → World → Prop), K (a₁ x) W →
      assign.wpIn (F.inRound l) (n - 1 - 1) P (Exit.then K (fun _ _ _ => False)) { tmps := (ps.zip (encs x)).foldl (fun t (p, v) => t.setIfInBounds p v) a.tmps, defers := [] } W)
    (hbody : ∀ (l k : Nat) (x : α) (M : Nat → Prop) (W : World), xs[k]? = some x → I k M W → body.wpIn (F.inRound l) (n - 1 - 1) P (postM I Ix k M W) (a₁ x) W)
    (hdone : ∀ (M : Nat → Prop) (W : World), I xs.length M W → ¬ M w.heap.size → W.heap[w.heap.size]? = some (.deferred (some [])) → Q .normal { a with defers := { target := .collected w.heap.size, args := #[] } :: a.defers } W)
    (hstop : ∀ (c : Code) (W : World), Ix c W → W.heap[w.heap.size]? = some (.deferred (some [])) → c.wpIn F n P Q { a with defers := { target := .collected w.heap.size, args := #[] } :: a.defers } W) :
    (Code.rangeFunc g ps assign body).wpIn F n P Q a w := by
  refine wpIn_rangeFunc ?_
  intro fn hfn
  rw [hro]
  obtain ⟨rec, hrec⟩ : ∃ rec : LoopState → Option Code → Loop, rec = fun st pe => { state := st, pending := pe, fn, tmps := a.tmps, params := ps, assign, body, defers := w.heap.size } := ⟨_, rfl⟩
  obtain ⟨W1, hW1⟩ : ∃ W1, (w.alloc (.deferred (some []))).alloc (.loop (rec .ready none)) = W1 := ⟨_, rfl⟩
  have hs1 : W1.heap.size = w.heap.size + 1 + 1 := by rw [← hW1]; simp
  have hL1 : W1.heap[w.heap.size + 1]? = some (.loop (rec .ready none)) := by
    rw [← hW1]; have := World.alloc_heap_new (w.alloc (.deferred (some []))) (.loop (rec .ready none)); rwa [World.size_alloc] at this
  have hK1 : W1.heap[w.heap.size]? = some (.deferred (some [])) := by
    rw [← hW1]; exact (Below.heap_alloc _ _ _ (by simp)).trans (World.alloc_heap_new w _)
  have hI1 : I 0 M0 W1 := by rw [← hW1]; exact hI _ _ _ _ h0 (((Turn.refl _ _ _ w).alloc _).alloc _)
  have hb1 : Below w.heap.size w W1 := by
    rw [← hW1]; exact ((Below.refl _ w).alloc (Nat.le_refl _) _).alloc (by simp) _
  refine ⟨w.heap.size + 1, [{ target := .collected w.heap.size, args := #[] }], W1, { target := .fn (.func gf) lb, args := #[.func (.yield (w.heap.size + 1)) #[] #[]] }, W1, gf,
    #[.func (.yield (w.heap.size + 1)) #[] #[]] ++ lb, W1, ?_, ?_, ?_, ?_, h1, ?_⟩
  · rw [← hW1, hrec]; exact run_enterLoop_outer _ _ _ _ _
  · simp only [resolve, hg]
    simp [go_sem]
  · intro f' hf'; simp [Target.leads] at hf'; subst hf'; exact hFg
  · simp [invoke, go_sem, eg]
  · refine (hseq (w.heap.size + 1)
      (fun k M' W => ∃ M, (∀ b, M' b ↔ (M b ∨ b = w.heap.size ∨ b = w.heap.size + 1)) ∧ I k M W ∧ ¬ M w.heap.size ∧ ¬ M (w.heap.size + 1) ∧ W.heap[w.heap.size + 1]? = some (.loop (rec .ready none)) ∧ W.heap[w.heap.size]? = some (.deferred (some [])))
      (fun W => ∃ c, Ix c W ∧ W.heap[w.heap.size + 1]? = some (.loop (rec .done (some c))) ∧ W.heap[w.heap.size]? = some (.deferred (some [])))
      (fun b => M0 b ∨ b = w.heap.size ∨ b = w.heap.size + 1) W1 hb1 ?_ ?_ ?_ ?_ ⟨M0, fun b => Iff.rfl, hI1, fun h => by have := (hM0 _ h).1; omega, fun h => by have := (hM0 _ h).1; omega, hL1, hK1⟩).mono ?_
    · rintro b hb (h | h | h)
      · exact (hM0 b h).2 hb
      · have := hR b hb; omega
      · have := hR b hb; omega
    · rintro k M' A B ⟨M, hM, hi, hn1, hn2, hl, hk⟩ ht
      have e1 := ht.held (w.heap.size + 1) (Array.getElem?_eq_some_iff.1 hl).1 (.inl ((hM _).2 (.inr (.inr rfl))))
      have e2 := ht.held w.heap.size (Array.getElem?_eq_some_iff.1 hk).1 (.inl ((hM _).2 (.inr (.inl rfl))))
      exact ⟨M, hM, hI _ _ _ _ hi (ht.less (fun b hb => (hM b).2 (.inl hb)) (by omega)), hn1, hn2, e1.trans hl, e2.trans hk⟩
    · rintro k M' A ⟨M, hM, hi, hn1, hn2, hl, hk⟩ b hb
      rcases (hM b).1 hb with h | h | h
      · exact hIb _ _ _ hi b h
      · rw [h]; exact (Array.getElem?_eq_some_iff.1 hk).1
      · rw [h]; exact (Array.getElem?_eq_some_iff.1 hl).1
    · rintro k x M' W hx ⟨M, hM, hi, hn1, hn2, hl, hk⟩
      have hlt : w.heap.size + 1 < W.heap.size := (Array.getElem?_eq_some_iff.1 hl).1
      have hy := run_yield (P := P) (args := encs x) hl (by rw [hrec]; exact hps x)
      rw [hrec] at hy
      refine ⟨fn, _, assign, body, hy, roundIn_of_wpIn hfn (hassign _ x W _ ⟨_, run_beginRound hl (by rw [hrec]), ?_⟩)⟩
      have hl2 : (W.putObj (w.heap.size + 1) (.loop { rec .ready none with state := .busy })).heap[w.heap.size + 1]? = some (.loop { rec .ready none with state := .busy }) := World.putObj_heap_same hlt
      have hk2 : (W.putObj (w.heap.size + 1) (.loop { rec .ready none with state := .busy })).heap[w.heap.size]? = some (.deferred (some [])) := (World.putObj_heap_other (by omega)).trans hk
      refine wpIn_mono (hbody _ k x M _ hx (hI _ _ _ _ hi (turn_putObj W _ _ hn2 (by omega)))) ?_
      have fin : ∀ (jump : Option Code) (W3 : World), Held M (W.putObj (w.heap.size + 1) (.loop { rec .ready none with state := .busy })) W3 →
          (Instr.endRound (w.heap.size + 1) jump).run P W3 = .ok (.bool jump.isNone) (W3.putObj (w.heap.size + 1) (.loop (rec (if jump.isNone then .ready else .done) jump))) ∧
          W3.heap[w.heap.size + 1]? = some (.loop { rec .ready none with state := .busy }) ∧
          (W3.putObj (w.heap.size + 1) (.loop (rec (if jump.isNone then .ready else .done) jump))).heap[w.heap.size + 1]? = some (.loop (rec (if jump.isNone then .ready else .done) jump)) ∧
          (W3.putObj (w.heap.size + 1) (.loop (rec (if jump.isNone then .ready else .done) jump))).heap[w.heap.size]? = some (.deferred (some [])) ∧
          Held M' W (W3.putObj (w.heap.size + 1) (.loop (rec (if jump.isNone then .ready else .done) jump))) := fun jump W3 hk3 => by
        have hl3 := (hk3.held _ (by simpa using hlt) hn2).trans hl2
        have := run_endRound (P := P) jump hl3
        rw [hrec] at this ⊢
        refine ⟨this, by rw [hrec] at hl3; exact hl3, World.putObj_heap_same (Array.getElem?_eq_some_iff.1 hl3).1, (World.putObj_heap_other (by omega)).trans ((hk3.held _ (by simp; omega) hn1).trans hk2), ?_⟩
        rw [hrec] at hk3
        refine ⟨hk3.os, hk3.tape, hk3.output, by have := hk3.size; simp at this ⊢; exact this, fun b hb hm => ?_⟩
        have hne : b ≠ w.heap.size + 1 := fun e => hm ((hM b).2 (.inr (.inr e)))
        rw [World.putObj_heap_other hne, hk3.held b (by simpa using hb) (fun h => hm ((hM b).2 (.inl h))), World.putObj_heap_other hne]
      rintro e a3 W3 hp
      cases e with
      | normal =>
        obtain ⟨M2, hi3, hk3, hM2⟩ := hp
        obtain ⟨hr, hl3, hl4, hk4, hh⟩ := fin none W3 hk3
        have n1 : ¬ M2 w.heap.size := fun h => (hM2 _ h).elim hn1 (fun h => by simp at h; omega)
        have n2 : ¬ M2 (w.heap.size + 1) := fun h => (hM2 _ h).elim hn2 (fun h => by simp at h; omega)
        refine ⟨_, _, hr, .inl ⟨rfl, fun b => M2 b ∨ b = w.heap.size ∨ b = w.heap.size + 1, ⟨M2, fun b => Iff.rfl, hI _ _ _ _ hi3 (turn_putObj W3 _ _ n2 (by omega)), n1, n2, hl4, hk4⟩, hh, ?_⟩⟩
        rintro b (h | h | h)
        · rcases hM2 b h with h | h
          · exact .inl ((hM b).2 (.inl h))
          · exact .inr (by simpa using h)
        · exact .inl ((hM b).2 (.inr (.inl h)))
        · exact .inl ((hM b).2 (.inr (.inr h)))
      | ret =>
        obtain ⟨hk3, hi3⟩ := hp
        obtain ⟨hr, hl3, hl4, hk4, _⟩ := fin (some .ret) W3 hk3
        exact ⟨_, _, hr, .inr ⟨rfl, .ret, hIx _ _ _ _ hi3 hl3, hl4, hk4⟩⟩
      | exit id =>
        obtain ⟨hk3, hi3⟩ := hp
        obtain ⟨hr, hl3, hl4, hk4, _⟩ := fin (some (.exit id)) W3 hk3
        exact ⟨_, _, hr, .inr ⟨rfl, .exit id, hIx _ _ _ _ hi3 hl3, hl4, hk4⟩⟩
      | goto t =>
        obtain ⟨hk3, hi3⟩ := hp
        obtain ⟨hr, hl3, hl4, hk4, _⟩ := fin (some (.goto t)) W3 hk3
        exact ⟨_, _, hr, .inr ⟨rfl, .goto t, hIx _ _ _ _ hi3 hl3, hl4, hk4⟩⟩
      | panic ch => exact hp.elim
      | outgrown => exact hp.elim
    · rintro e W2 ⟨⟨v, rfl⟩, (⟨M', M, hM, hi, hn1, hn2, hl, hk⟩ | ⟨c, hi, hl, hk⟩)⟩
      · exact ⟨none, _, by have := run_endLoop (P := P) hl (by rw [hrec]; simp); rw [hrec] at this; exact this, hdone M _ (hI _ _ _ _ hi (turn_putObj W2 _ _ hn2 (by omega))) hn1 ((World.putObj_heap_other (by omega)).trans hk)⟩
      · exact ⟨some c, _, by have := run_endLoop (P := P) hl (by rw [hrec]; simp); rw [hrec] at this; exact this, hstop c _ (hIx _ _ _ _ hi hl) ((World.putObj_heap_other (by omega)).trans hk)⟩

end Go.Proofs.Ybulkbik
