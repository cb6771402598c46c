import Derived.Test.YbulkbikIterA
import Derived.Test.YbulkbikShelfE
import Derived.Test.YbulkbikPlainAdj
import Derived.RegionIn
import Derived.Deep.RegionHeld3
namespace Go.Proofs.Ybulkbik
attribute [local go_sem ↓] Go.wp_at_zero Go.wp_at_succ
attribute [local go_sem] Oper.semAt_some
open Go.RowKit Go.Maps

theorem infoA3 : (Yba.prog.info? 3).map (fun i => (i.zero, i.size, i.bytes)) = some (some (.int .i64 0), 1, 8) := by kernel_rfl
theorem makeA53 (n : Nat) (hn : n ≤ 1000000) (w : World) : (Instr.makeSlice 53 (.int .i64 (n : Int)) (.int .i64 (n : Int))).run Yba.prog w =
    .ok (.slice (some ⟨w.heap.size, 0, none⟩) n n) (w.alloc (.cells (madeCells #[.int .i64 0] n) 3)) :=
  run_make_row' 53 3 (.int .i64 0) 8 Yba.underlying53 infoA3 rfl .i64 .i64 n (by omega) (by omega) w

/-- slices.Clone at []int, of the first n cells of a row. -/
theorem clone53 (b n m c : Nat) (F : Nat → Int) (W : World) (h : W.rowIs b 3 m (fun i => .int .i64 (F i))) (hn : n ≤ m) (hn2 : n ≤ 1000) :
    Calls Yba.prog 53 #[.slice (some ⟨b, 0, none⟩) n c] W fun e w' => ∃ g cap f, e = .returned (.slice (some ⟨g, 0, none⟩) n cap) ∧ W.heap.size ≤ g ∧ w'.rowIs g 3 cap f ∧ n ≤ cap ∧ (∀ i, i < n → f i = .int .i64 (F i)) ∧ Below W.heap.size W w' := by
  obtain ⟨i3, hi3, hz30, hz31, hz32⟩ := info_parts infoA3
  have hcon := AnyE.slices_Clone (ρ := Yba.cloneL_ren) Yba.cloneL i3 (.int .i64 0) 1 8 hi3 hz30 hz31 hz32 rfl (by decide) Yba.sizeOf3 b 0 n c ((List.range n).map fun i => Value.int .i64 (F i)) W (by simp) (by unfold maxLen; omega) (by omega)
    (fun j u hu => by
      have hj : j < n := by
        have := (List.getElem?_eq_some_iff.1 hu).1
        simpa using this
      simp [hj] at hu
      rw [← hu, Nat.zero_add]
      exact h.cell (by omega)) (by intro u hu; simp at hu; obtain ⟨i, _, rfl⟩ := hu; rfl)
  change Calls Yba.prog 53 _ _ _ at hcon
  refine hcon.mono ?_
  rintro e w' ⟨v', rfl, hown, hne, hb⟩
  rcases hown.2 with ⟨e, _⟩ | ⟨g, cap, cur, rfl, hg, hh, h1, h2, h3, h4⟩
  · exact absurd e hne
  · refine ⟨g, cap, fun i => cur[i]?.getD undef, rfl, hg, ⟨cur, hh, by simpa using h3, fun i hi => by simp at h3; simp [h3, hi]⟩, h1, fun i hi => ?_, hb⟩
    have hi2 : cur.toList[i]? = some (.int .i64 (F i)) := by
      have : (cur.toList.take (n * 1))[i]? = some (.int .i64 (F i)) := by rw [h4]; simp [hi]
      rwa [List.getElem?_take_of_lt (by omega)] at this
    have : cur[i]? = some (.int .i64 (F i)) := by simpa using hi2
    simp [this]

/-- 'start' once k pairs are counted. -/
def countCell (E : List (Nat × Nat)) (i : Nat) : Nat := if i = 0 then 0 else cntA E (i - 1)

/-- The first loop of adjacency: so far k pairs are counted. -/
structure Cnt1 (n : Nat) (E : List (Nat × Nat)) (w : World) (k : Nat) (M : Nat → Prop) (W : World) : Prop where
  m : M = fun b => b = w.heap.size
  bel : Below w.heap.size w W
  size : w.heap.size + 1 + 1 ≤ W.heap.size
  row : W.rowIs w.heap.size 3 (n + 1) (fun i => .int .i64 ((countCell (E.take k) i : Nat) : Int))
  box : W.rowIs (w.heap.size + 1) 53 1 (fun _ => .slice (some ⟨w.heap.size, 0, none⟩) (n + 1) (n + 1))

theorem Cnt1.turn {n : Nat} {E : List (Nat × Nat)} {w : World} {k X : Nat} {M : Nat → Prop} {A B : World} (h : Cnt1 n E w k M A) (ht : Turn M (w.heap.size + 1 + 1) X A B) (hX : X = w.heap.size + 1 + 1) : Cnt1 n E w k M B := by
  have hs := h.size
  have keep : ∀ b, b < w.heap.size + 1 + 1 → B.heap[b]? = A.heap[b]? := fun b hb => ht.held b (by omega) (.inr ⟨hb, by omega⟩)
  have hb := h.bel
  refine ⟨h.m, ⟨ht.os.trans hb.os, ht.tape.trans hb.tape, ht.output.trans hb.output, Nat.le_trans hb.size ht.size, fun b hb' => (keep b (by omega)).trans (hb.block b hb')⟩, Nat.le_trans hs ht.size, h.row.of_block (keep _ (by omega)), h.box.of_block (keep _ (by omega))⟩

theorem Cnt1.step {n : Nat} {E : List (Nat × Nat)} {w : World} {k : Nat} {M : Nat → Prop} {A : World} {x : Nat × Nat} (h : Cnt1 n E w k M A) (hx : E[k]? = some x) :
    Cnt1 n E w (k + 1) M (A.setCell ⟨w.heap.size, x.1 + 1, none⟩ (.int .i64 ((countCell (E.take k) (x.1 + 1) : Nat) + 1 : Int))) := by
  refine ⟨h.m, h.bel.setCell (Nat.le_refl _) _, by simpa using h.size, (h.row.set (x.1 + 1) _).congr (fun i _ => ?_), h.box.setOther (by simp) _⟩
  have hn := cntA_next hx (i - 1)
  unfold countCell
  by_cases e : i = x.1 + 1
  · subst e
    rw [if_pos rfl, if_neg (by omega), if_neg (by omega)]
    rw [if_pos (by simp)] at hn
    rw [hn]
    simp
  · rw [if_neg e]
    by_cases h0 : i = 0
    · rw [if_pos h0, if_pos h0]
    · rw [if_neg h0, if_neg h0, hn, if_neg (by omega), Nat.add_zero]

/-- The second loop of adjacency: so far k pairs are laid. -/
structure Fil2 (n : Nat) (E : List (Nat × Nat)) (w : World) (s nb capn : Nat) (f : Nat → Value) (F : Nat → Int) (k : Nat) (M : Nat → Prop) (W : World) : Prop where
  m : M = fun b => b = nb ∨ b = s + 1
  bel : Below w.heap.size w W
  size : s + 1 + 1 + 1 ≤ W.heap.size
  start : W.rowIs w.heap.size 3 (n + 1) (fun i => .int .i64 ((stA E i : Nat) : Int))
  box5 : W.rowIs (w.heap.size + 1) 53 1 (fun _ => .slice (some ⟨w.heap.size, 0, none⟩) (n + 1) (n + 1))
  box8 : W.rowIs s 53 1 (fun _ => .slice (some ⟨nb, 0, none⟩) n capn)
  box9 : W.rowIs (s + 1 + 1) 43 1 (fun _ => .slice (some ⟨s + 1, 0, none⟩) E.length E.length)
  nxt : W.rowIs nb 3 capn f
  nxtv : ∀ v, v < n → f v = .int .i64 ((stA E v + cntA (E.take k) v : Nat) : Int)
  all : W.rowIs (s + 1) 21 E.length (fun i => .int .i32 (F i))
  allv : ∀ v, v < n → ∀ j, j < cntA (E.take k) v → ∃ u, (succA E v)[j]? = some u ∧ F (stA E v + j) = (u : Int)
  dfr : W.heap[w.heap.size + 1 + 1]? = some (.deferred (some []))
  low : w.heap.size + 1 + 1 < nb ∧ nb < s

theorem Fil2.turn {n : Nat} {E : List (Nat × Nat)} {w : World} {s nb capn : Nat} {f : Nat → Value} {F : Nat → Int} {k X : Nat} {M : Nat → Prop} {A B : World} (h : Fil2 n E w s nb capn f F k M A) (ht : Turn M (s + 1 + 1 + 1) X A B) (hX : X = s + 1 + 1 + 1) : Fil2 n E w s nb capn f F k M B := by
  have hs := h.size
  have hl := h.low
  have keep : ∀ b, b < s + 1 + 1 + 1 → B.heap[b]? = A.heap[b]? := fun b hb => ht.held b (by omega) (.inr ⟨hb, by omega⟩)
  have hb := h.bel
  exact ⟨h.m, ⟨ht.os.trans hb.os, ht.tape.trans hb.tape, ht.output.trans hb.output, Nat.le_trans hb.size ht.size, fun b hb' => (keep b (by omega)).trans (hb.block b hb')⟩, Nat.le_trans hs ht.size,
    h.start.of_block (keep _ (by omega)), h.box5.of_block (keep _ (by omega)), h.box8.of_block (keep _ (by omega)), h.box9.of_block (keep _ (by omega)), h.nxt.of_block (keep _ (by omega)), h.nxtv, h.all.of_block (keep _ (by omega)), h.allv, (keep _ (by omega)).trans h.dfr, h.low⟩

theorem Fil2.step {n : Nat} {E : List (Nat × Nat)} {w : World} {s nb capn : Nat} {f : Nat → Value} {F : Nat → Int} {k a b p : Nat} {M : Nat → Prop} {W : World} (h : Fil2 n E w s nb capn f F k M W) (hx : E[k]? = some (a, b)) (hp : p = stA E a + cntA (E.take k) a) :
    Fil2 n E w s nb capn (fun j => if j = a then .int .i64 ((p : Int) + 1) else f j) (fun i => if i = p then (b : Int) else F i) (k + 1) M ((W.setCell ⟨s + 1, p, none⟩ (.int .i32 (b : Int))).setCell ⟨nb, a, none⟩ (.int .i64 ((p : Int) + 1))).drew := by
  have hl := h.low
  have hb := h.bel
  have hcl := cntA_take_lt hx
  have hat := succA_at hx
  simp only [] at hcl hat
  have old : ∀ {b' t l : Nat} {g : Nat → Value}, b' ≠ s + 1 → b' ≠ nb → W.rowIs b' t l g → ((W.setCell ⟨s + 1, p, none⟩ (.int .i32 (b : Int))).setCell ⟨nb, a, none⟩ (.int .i64 ((p : Int) + 1))).rowIs b' t l g := fun h1 h2 hr => (hr.setOther h1 _).setOther h2 _
  refine ⟨h.m, ((hb.setCell (by simp; omega) _).setCell (by simp; omega) _).drew, by have := h.size; simpa using this, (old (by omega) (by omega) h.start).drew, (old (by omega) (by omega) h.box5).drew, (old (by omega) (by omega) h.box8).drew, (old (by omega) (by omega) h.box9).drew,
    ((h.nxt.setOther (by simp; omega) _).set a _).drew, ?_, ?_, ?_, ?_, h.low⟩
  · intro v hv
    have hn := cntA_next hx v
    by_cases e : v = a
    · subst e
      rw [if_pos rfl, hn, if_pos rfl, hp]
      congr 1
    · rw [if_neg e, h.nxtv v hv, hn, if_neg (by simp; omega), Nat.add_zero]
  · refine (((h.all.set p _).setOther (by simp; omega) _).drew).congr (fun i _ => ?_)
    by_cases e : i = p
    · rw [if_pos e, if_pos e]
    · rw [if_neg e, if_neg e]
  · intro v hv j hj
    have hn := cntA_next hx v
    rw [hn] at hj
    by_cases e : v = a ∧ j = cntA (E.take k) a
    · obtain ⟨rfl, rfl⟩ := e
      exact ⟨b, hat, by rw [if_pos hp.symm]⟩
    · have hj2 : j < cntA (E.take k) v := by
        by_cases hv2 : a = v
        · subst hv2
          rw [if_pos rfl] at hj
          have : j ≠ cntA (E.take k) a := fun h => e ⟨rfl, h⟩
          omega
        · rw [if_neg (by simpa using hv2)] at hj; omega
      obtain ⟨u, h1, h2⟩ := h.allv v hv j hj2
      refine ⟨u, h1, ?_⟩
      rw [if_neg (fun h3 => e ?_)]
      · exact h2
      · rw [hp] at h3
        exact stA_apart (Nat.lt_of_lt_of_le hj2 (cntA_take_le E k v)) hcl h3
  · exact (Below.heap_setCell _ _ _ _ (by simp; omega)).trans ((Below.heap_setCell _ _ _ _ (by simp; omega)).trans h.dfr)

theorem below_putObjA {B : Nat} {w W : World} (h : Below B w W) {l : Nat} (hl : B ≤ l) (o : Obj) : Below B w (W.putObj l o) :=
  ⟨h.os, h.tape, h.output, by have := h.size; simpa using this, fun k hk => (World.putObj_heap_other (by omega)).trans (h.block k hk)⟩

/-- v's list, as a slice of the row ab. (The model has an empty list begin where the row does.) -/
def adSl (E : List (Nat × Nat)) (ab i : Nat) : Value := .slice (if cntA E i = 0 then some ⟨ab, 0, none⟩ else some ⟨ab, stA E i, none⟩) (cntA E i) (cntA E i)

/-- What adjacency gives back: v's list lies in the row ab, from stA v on. -/
def AdjPost (n : Nat) (E : List (Nat × Nat)) (w : World) (e : Ending) (w' : World) : Prop :=
  ∃ (lb ab : Nat) (F : Nat → Int), e = .returned (.slice (some ⟨lb, 0, none⟩) n n) ∧ Below w.heap.size w w' ∧ w.heap.size ≤ lb ∧ w.heap.size ≤ ab ∧ lb ≠ ab ∧
    w'.rowIs lb 43 n (adSl E ab) ∧ w'.rowIs ab 21 E.length (fun i => .int .i32 (F i)) ∧
    ∀ v, v < n → ∀ j, j < cntA E v → ∃ u, (succA E v)[j]? = some u ∧ F (stA E v + j) = (u : Int)

set_option maxRecDepth 100000 in
set_option maxHeartbeats 4000000 in
theorem adj43 (n gf : Nat) (bd : Array Value) (E : List (Nat × Nat)) (R : Nat → Prop) (w : World) (hseq : ∀ w', Below w.heap.size w w' → SeqB Fence.wide 2 Yba.prog gf bd encA E R w'.heap.size w') (hR : ∀ b, R b → b < w.heap.size)
    (eg : ∀ args w, (callFunc gf args).run Yba.prog w = .ok (.enter gf args) w) (hE : ∀ e ∈ E, e.1 < n ∧ e.2 < n) (hn : n ≤ 8) (hlen : E.length ≤ 4096) :
    Calls Yba.prog 43 #[.int .i64 (n : Nat), .func (.func gf) bd #[]] w fun e w' => AdjPost n E w e w' := by
  have mk1 := makeA53 (n + 1) (by omega)
  have en : ((n + 1 : Nat) : Int) = (n : Int) + 1 := by omega
  rw [en] at mk1
  refine callsIn_wide.1 (callsIn_of_wp_marks (n := 3) Yba.func43 rfl trivial (wpIn_wide.2 ?_))
  simp only [Yba.ntmps43, List.size_toArray, List.length_cons, List.length_nil, Nat.reduceAdd, Nat.reduceSub, Array.replicate_succ, Array.replicate_zero, List.push_toArray, List.append_toArray, List.nil_append, List.cons_append]
  go_wp2_with fail
  have c0 : Cnt1 n E w 0 (fun b => b = w.heap.size) ((w.alloc (.cells (madeCells #[.int .i64 0] (n + 1)) 3)).alloc (.cells #[.slice (some ⟨w.heap.size, 0, none⟩) (n + 1) (n + 1)] 53)) := by
    refine ⟨rfl, ((Below.refl _ w).alloc (Nat.le_refl _) _).alloc (by simp) _, by simp, ?_, ?_⟩
    · exact ((World.rowIs_made w (.int .i64 0) (n + 1) 3).alloc _).congr (fun i _ => by
        unfold countCell
        split <;> rfl)
    · have := World.rowIs_alloc (w.alloc (.cells (madeCells #[.int .i64 0] (n + 1)) 3)) #[.slice (some ⟨w.heap.size, 0, none⟩) (n + 1) (n + 1)] 53 (fun _ => .slice (some ⟨w.heap.size, 0, none⟩) (n + 1) (n + 1)) (fun i hi => by
        match i, hi with
        | 0, _ => rfl)
      simpa using this
  have hs1 : ((w.alloc (.cells (madeCells #[.int .i64 0] (n + 1)) 3)).alloc (.cells #[.slice (some ⟨w.heap.size, 0, none⟩) (n + 1) (n + 1)] 53)).heap.size = w.heap.size + 1 + 1 := by simp
  have seq1 := hseq _ c0.bel
  rw [hs1] at seq1
  generalize (w.alloc (.cells (madeCells #[.int .i64 0] (n + 1)) 3)).alloc (.cells #[.slice (some ⟨w.heap.size, 0, none⟩) (n + 1) (n + 1)] 53) = w1 at *
  refine wpIn_wide.1 (wpIn_rangeFunc_B (n := 3) rfl (fun h => by simp [Fence.wide] at h) (gf := gf) (bd := bd) rfl trivial eg (encs := encA) (xs := E) (R := R) (X := w.heap.size + 1 + 1) seq1 ?hR (fun _ => rfl)
    (fun k M W => Cnt1 n E w k M W) (fun _ _ => False) (fun b => b = w.heap.size) ?hM0 ?hI ?hIb (fun _ _ _ _ h _ => h) c0
    (fun x => { tmps := #[Value.int .i64 (n : Int), Value.func (.func gf) bd #[], undef, undef, Value.slice none 0 0, Value.pointer (some ⟨w.heap.size + 1, 0, none⟩), Value.int .i32 ((x.1 : Nat) : Int), undef, undef, undef, undef, undef, undef, undef, Value.int .i64 (n : Int), Value.int .i64 ((n : Int) + 1), Value.slice (some ⟨w.heap.size, 0, none⟩) (n + 1) (n + 1), Value.func (.func gf) bd #[], Value.int .i32 ((x.1 : Nat) : Int), Value.int .i32 ((x.2 : Nat) : Int), undef, undef, undef, undef, undef, undef, undef, undef, undef, undef, undef, undef, undef, undef, undef, undef, undef, undef, undef, undef, undef, undef, undef, undef, undef, undef, undef, undef, undef, undef, undef, undef, undef, undef, undef, undef, undef, undef, undef, undef, undef, undef, undef, undef, undef, undef, undef, undef, undef, undef, undef, undef, undef, undef, undef, undef, undef, undef, undef, undef, undef, undef, undef, undef, undef, undef, undef, undef, undef, undef, undef, undef, undef, undef, undef, undef], defers := [] }) ?assign ?body ?done (fun _ _ h _ => h.elim))
  case hR => exact fun b hb => by have := hR b hb; omega
  case hM0 => rintro b rfl; exact ⟨by omega, fun h => by have := hR _ h; omega⟩
  case hI => intro k M A B h ht; rw [hs1] at ht; exact h.turn ht rfl
  case hIb => intro k M A h b hb; rw [h.m] at hb; have := h.size; omega
  case assign =>
    intro l x W K' hK'
    unfold encA
    gi_wp2
    exact hK'
  case body =>
    intro l k x M W hx hc
    have hxE := hE x (List.mem_of_getElem? hx)
    have b0 := hc.box.cell (i := 0) (by omega)
    have r0 := hc.row.cell (i := x.1 + 1) (by omega)
    have f0 := hc.row.frozen (x.1 + 1)
    have rl := hc.row.lt
    have bl := hc.box.lt
    have hcl : countCell (E.take k) (x.1 + 1) ≤ 4096 := by
      unfold countCell
      rw [if_neg (by omega)]
      have h1 := cntA_take_le E k (x.1 + 1 - 1)
      have h2 := stA_end (fun e he => (hE e he).1) (show x.1 + 1 - 1 < n by omega)
      omega
    have hst := hc.step hx
    obtain ⟨v, u⟩ := x
    simp only [] at hxE b0 r0 f0 hcl hst ⊢
    have HST : Hid _ := hst
    have HM : Hid _ := hc.m
    clear hst hc
    generalize countCell (E.take k) (v + 1) = cc at r0 hcl HST
    have w1 : IntKind.i32.wrap ((v : Int) + 1) = (v : Int) + 1 := by rw [IntKind.wrap_i32]; omega
    have w2 : IntKind.i64.wrap ((cc : Int) + 1) = (cc : Int) + 1 := by rw [IntKind.wrap_i64]; omega
    gi_wp2
    refine ⟨M, HST.out, (Held.same W).set _ (by rw [HM.out]), fun b hb => .inl hb⟩
  case done =>
    intro M W hc hM hK
    have htk : E.take E.length = E := List.take_length
    have hrow := hc.row
    rw [htk] at hrow
    have bel := hc.bel
    have box := hc.box
    have hsz := hc.size
    clear hc hM htk c0 seq1 mk1 en
    rw [hs1] at hK
    have hst : stA E n = E.length := stA_total (fun e he => (hE e he).1)
    go_wp2_with fail
    go_loopw [28] (fun vi wr => ∃ v : Nat, v ≤ n ∧ vi = .int .i64 (v : Nat) ∧ Below w.heap.size w wr ∧ wr.heap.size = W.heap.size ∧ wr.rowIs w.heap.size 3 (n + 1) (fun i => .int .i64 (((if i ≤ v then stA E i else countCell E i) : Nat) : Int)) ∧ wr.rowIs (w.heap.size + 1) 53 1 (fun _ => .slice (some ⟨w.heap.size, 0, none⟩) (n + 1) (n + 1)) ∧ wr.heap[w.heap.size + 1 + 1]? = some (.deferred (some []))) (fun vi _ => n - (intOf vi).toNat)
    case atStart =>
      refine ⟨0, Nat.zero_le _, rfl, bel, rfl, hrow.congr (fun i _ => ?_), box, hK⟩
      by_cases h0 : i = 0
      · subst h0; rfl
      · rw [if_neg (by omega)]
    case round =>
      obtain ⟨v, hv, rfl, bel2, hs2, row2, box2, hK2⟩ := hrel
      by_cases hlv : v < n
      · have b0 := box2.cell (i := 0) (by omega)
        have r0 := row2.cell (i := v) (by omega)
        have r1 := row2.cell (i := v + 1) (by omega)
        have f1 := row2.frozen (v + 1)
        rw [if_pos (Nat.le_refl _)] at r0
        rw [if_neg (by omega), show countCell E (v + 1) = cntA E v from rfl] at r1
        have l0 := row2.lt
        have l1 := box2.lt
        have hle := stA_end (fun e he => (hE e he).1) hlv
        have hnx : stA E (v + 1) = stA E v + cntA E v := rfl
        have HNX : Hid _ := hnx
        generalize hA : stA E v = sA at *
        generalize hB : cntA E v = sB at *
        clear hnx hA hB
        go_wp2_with fail
        go_region
        all_goals go_wp2_with fail
        all_goals go_roundw
        case rel =>
          refine ⟨v + 1, by omega, by go_num, (below_drewN bel2 1).setCell (Nat.le_refl _) _, by simpa using hs2, ?_, World.rowIs.setOther (w := wr.drewN 1) box2 (by simp) _, (Below.heap_setCell _ _ _ _ (by simp; omega)).trans hK2⟩
          refine (World.rowIs.set (w := wr.drewN 1) row2 (v + 1) _).congr (fun i _ => ?_)
          by_cases e : i = v + 1
          · subst e
            rw [if_pos rfl, if_pos (Nat.le_refl _), HNX.out]
            congr 1
            omega
          · rw [if_neg e]
            by_cases hi : i ≤ v
            · rw [if_pos hi, if_pos (by omega)]
            · rw [if_neg hi, if_neg (by omega)]
        case measure => simp [intOf]; omega
      · have hvn : v = n := by omega
        subst hvn
        have row3 : wr.rowIs w.heap.size 3 (v + 1) (fun i => .int .i64 ((stA E i : Nat) : Int)) := row2.congr (fun i hi => by rw [if_pos (by omega)])
        have b0 := box2.cell (i := 0) (by omega)
        have l0 := row2.lt
        have l1 := box2.lt
        have c53 := clone53 w.heap.size v (v + 1) (v + 1) (fun i => ((stA E i : Nat) : Int)) wr row3 (by omega) (by omega)
        clear row2 hrow box bel hK
        have r0 := row3.cell (i := v) (by omega)
        rw [hst] at r0
        have mk2 := make43 E.length (by omega)
        go_wp2_with (go_at_call 53; refine c53.mono ?_; rintro e w2 ⟨nb, capn, fn, rfl, hnb, nrow, hcapn, hfn, bel3⟩; have b1 := (bel3.cell (p := ⟨w.heap.size + 1, 0, none⟩) l1).trans b0; have r1 := (bel3.cell (p := ⟨w.heap.size, v, none⟩) l0).trans r0; have hs3 := bel3.size; have l1' := Nat.lt_of_lt_of_le l1 bel3.size; have l0' := Nat.lt_of_lt_of_le l0 bel3.size)
        have fil0 : Fil2 v E w w2.heap.size nb capn fn (fun _ => 0) 0 (fun b => b = nb ∨ b = w2.heap.size + 1) (((w2.alloc (.cells #[.slice (some ⟨nb, 0, none⟩) v capn] 53)).alloc (.cells (madeCells #[.int .i32 0] E.length) 21)).alloc (.cells #[.slice (some ⟨w2.heap.size + 1, 0, none⟩) E.length E.length] 43)) := by
          have old : ∀ {b t l : Nat} {f : Nat → Value}, wr.rowIs b t l f → (((w2.alloc (.cells #[.slice (some ⟨nb, 0, none⟩) v capn] 53)).alloc (.cells (madeCells #[.int .i32 0] E.length) 21)).alloc (.cells #[.slice (some ⟨w2.heap.size + 1, 0, none⟩) E.length E.length] 43)).rowIs b t l f := fun {b t l f} hr => (((hr.of_block (bel3.block _ hr.lt)).alloc _).alloc _).alloc _
          refine ⟨rfl, ?_, by simp, old row3, old box2, ?_, ?_, ((nrow.alloc _).alloc _).alloc _, ?_, ?_, ?_, ?_, ⟨by have := (Array.getElem?_eq_some_iff.1 hK2).1; omega, nrow.lt⟩⟩
          · have hb4 := bel2.trans (bel3.mono bel2.size)
            exact ((hb4.alloc hb4.size _).alloc (by have := hb4.size; simp; omega) _).alloc (by have := hb4.size; simp; omega) _
          · exact ((World.rowIs_alloc w2 #[.slice (some ⟨nb, 0, none⟩) v capn] 53 (fun _ => .slice (some ⟨nb, 0, none⟩) v capn) (fun i hi => by
              match i, hi with
              | 0, _ => rfl)).alloc _).alloc _
          · have := World.rowIs_alloc ((w2.alloc (.cells #[.slice (some ⟨nb, 0, none⟩) v capn] 53)).alloc (.cells (madeCells #[.int .i32 0] E.length) 21)) #[.slice (some ⟨w2.heap.size + 1, 0, none⟩) E.length E.length] 43 (fun _ => .slice (some ⟨w2.heap.size + 1, 0, none⟩) E.length E.length) (fun i hi => by
              match i, hi with
              | 0, _ => rfl)
            simpa using this
          · intro u hu
            rw [hfn u hu]
            rfl
          · have := (World.rowIs_made (w2.alloc (.cells #[.slice (some ⟨nb, 0, none⟩) v capn] 53)) (.int .i32 0) E.length 21).alloc (.cells #[.slice (some ⟨w2.heap.size + 1, 0, none⟩) E.length E.length] 43)
            simpa using this
          · intro u _ j hj
            exact absurd hj (by simp [cntA, succA])
          · have hl : w.heap.size + 1 + 1 < wr.heap.size := (Array.getElem?_eq_some_iff.1 hK2).1
            exact (Below.heap_alloc _ _ _ (by simp; omega)).trans ((Below.heap_alloc _ _ _ (by simp; omega)).trans ((Below.heap_alloc _ _ _ (by omega)).trans ((bel3.block _ hl).trans hK2)))
        have hs4 : (((w2.alloc (.cells #[.slice (some ⟨nb, 0, none⟩) v capn] 53)).alloc (.cells (madeCells #[.int .i32 0] E.length) 21)).alloc (.cells #[.slice (some ⟨w2.heap.size + 1, 0, none⟩) E.length E.length] 43)).heap.size = w2.heap.size + 1 + 1 + 1 := by simp
        have seq2 := hseq _ fil0.bel
        rw [hs4] at seq2
        generalize ((w2.alloc (.cells #[.slice (some ⟨nb, 0, none⟩) v capn] 53)).alloc (.cells (madeCells #[.int .i32 0] E.length) 21)).alloc (.cells #[.slice (some ⟨w2.heap.size + 1, 0, none⟩) E.length E.length] 43) = w4 at *
        clear b0 b1 r0 r1 mk2 c53 row3 box2 nrow hfn bel2 bel3 hK2 hs2
        refine wpIn_wide.1 (wpIn_rangeFunc_B (n := 3) rfl (fun h => by simp [Fence.wide] at h) (gf := gf) (bd := bd) rfl trivial eg (encs := encA) (xs := E) (R := R) (X := w2.heap.size + 1 + 1 + 1) seq2 ?hR2 (fun _ => rfl)
          (fun k M W => ∃ f F, Fil2 v E w w2.heap.size nb capn f F k M W) (fun _ _ => False) (fun b => b = nb ∨ b = w2.heap.size + 1) ?hM2 ?hI2 ?hIb2 (fun _ _ _ _ h _ => h) ⟨_, _, fil0⟩
          (fun x => { tmps := #[Value.int .i64 (v : Int), Value.func (.func gf) bd #[], undef, undef, Value.slice none 0 0, Value.pointer (some ⟨w.heap.size + 1, 0, none⟩), undef, u7, Value.pointer (some ⟨w2.heap.size, 0, none⟩), Value.pointer (some ⟨w2.heap.size + 1 + 1, 0, none⟩), Value.int .i32 ((x.1 : Nat) : Int), Value.int .i32 ((x.2 : Nat) : Int), undef, undef, Value.int .i64 (v : Int), Value.int .i64 ((v : Int) + 1), Value.slice (some ⟨w.heap.size, 0, none⟩) (v + 1) (v + 1), Value.func (.func gf) bd #[], undef, undef, undef, undef, undef, undef, undef, undef, undef, Value.int .i64 (v : Int), Value.int .i64 (v : Int), Value.bool false, u30, u31, u32, u33, u34, u35, u36, u37, u38, u39, u40, u41, u42, Value.slice (some ⟨w.heap.size, 0, none⟩) (v + 1) (v + 1), Value.int .i64 (v : Int), Value.slice (some ⟨w.heap.size, 0, none⟩) v (v + 1), Value.slice (some ⟨nb, 0, none⟩) v capn, Value.slice (some ⟨w.heap.size, 0, none⟩) (v + 1) (v + 1), Value.int .i64 (v : Int), Value.pointer (some ⟨w.heap.size, v, none⟩), Value.int .i64 (E.length : Int), Value.slice (some ⟨w2.heap.size + 1, 0, none⟩) E.length E.length, Value.func (.func gf) bd #[], Value.int .i32 ((x.1 : Nat) : Int), Value.int .i32 ((x.2 : Nat) : Int), undef, undef, undef, undef, undef, undef, undef, undef, undef, undef, undef, undef, undef, undef, undef, undef, undef, undef, undef, undef, undef, undef, undef, undef, undef, undef, undef, undef, undef, undef, undef, undef, undef, undef, undef, undef, undef, undef, undef, undef, undef], defers := [] }) ?assign2 ?body2 ?done2 (fun _ _ h _ => h.elim))
        case hR2 => exact fun b hb => by have := hR b hb; omega
        case hM2 =>
          have := fil0.low
          rintro b (rfl | rfl)
          · exact ⟨by omega, fun h => by have := hR _ h; omega⟩
          · exact ⟨by omega, fun h => by have := hR _ h; omega⟩
        case hI2 => rintro k M A B ⟨f, F, h⟩ ht; rw [hs4] at ht; exact ⟨f, F, h.turn ht rfl⟩
        case hIb2 =>
          rintro k M A ⟨f, F, h⟩ b hb
          rw [h.m] at hb
          have h1 := h.size
          have h2 := h.low
          rcases hb with rfl | rfl <;> omega
        case assign2 =>
          intro l x W K' hK'
          unfold encA
          gi_wp2
          exact hK'
        case body2 =>
          rintro l k ⟨a, b⟩ M W hx ⟨f, F, hf⟩
          have hxE := hE (a, b) (List.mem_of_getElem? hx)
          have c5 := hf.box8.cell (i := 0) (by omega)
          have c9 := hf.box9.cell (i := 0) (by omega)
          have l8 := hf.box8.lt
          have l9 := hf.box9.lt
          have ln := hf.nxt.lt
          have la := hf.all.lt
          have hcl := cntA_take_lt hx
          have hen := stA_end (fun e he => (hE e he).1) hxE.1
          simp only [] at hxE hcl hen
          obtain ⟨p, hp⟩ : ∃ p, p = stA E a + cntA (E.take k) a := ⟨_, rfl⟩
          have hpl : p < E.length := by omega
          have cn := hf.nxt.cell (i := a) (by omega)
          rw [hf.nxtv a hxE.1, ← hp] at cn
          have fnn := hf.nxt.frozen a
          have ca := hf.all.cell (i := p) hpl
          have fa := hf.all.frozen p
          have hne : nb ≠ w2.heap.size + 1 := by have := hf.low; omega
          have hne8 : nb ≠ w2.heap.size := by have := hf.low; omega
          have hne9 : nb ≠ w2.heap.size + 1 + 1 := by have := hf.low; omega
          have HF : Hid _ := hf
          have HP : Hid (p = stA E a + cntA (E.take k) a) := hp
          clear hf hp hcl hen
          gi_wp2
          refine wpIn_mono (Q := fun e a' w' => e = .normal ∧ a' = { tmps := #[Value.int .i64 (v : Int), Value.func (.func gf) bd #[], undef, undef, Value.slice none 0 0, Value.pointer (some ⟨w.heap.size + 1, 0, none⟩), undef, u7, Value.pointer (some ⟨w2.heap.size, 0, none⟩), Value.pointer (some ⟨w2.heap.size + 1 + 1, 0, none⟩), Value.int .i32 (a : Int), Value.int .i32 (b : Int), undef, undef, Value.int .i64 (v : Int), Value.int .i64 ((v : Int) + 1), Value.slice (some ⟨w.heap.size, 0, none⟩) (v + 1) (v + 1), Value.func (.func gf) bd #[], undef, undef, undef, undef, undef, undef, undef, undef, undef, Value.int .i64 (v : Int), Value.int .i64 (v : Int), Value.bool false, u30, u31, u32, u33, u34, u35, u36, u37, u38, u39, u40, u41, u42, Value.slice (some ⟨w.heap.size, 0, none⟩) (v + 1) (v + 1), Value.int .i64 (v : Int), Value.slice (some ⟨w.heap.size, 0, none⟩) v (v + 1), Value.slice (some ⟨nb, 0, none⟩) v capn, Value.slice (some ⟨w.heap.size, 0, none⟩) (v + 1) (v + 1), Value.int .i64 (v : Int), Value.pointer (some ⟨w.heap.size, v, none⟩), Value.int .i64 (E.length : Int), Value.slice (some ⟨w2.heap.size + 1, 0, none⟩) E.length E.length, Value.func (.func gf) bd #[], Value.int .i32 (a : Int), Value.int .i32 (b : Int), Value.slice (some ⟨w2.heap.size + 1, 0, none⟩) E.length E.length, Value.slice (some ⟨nb, 0, none⟩) v capn, Value.int .i32 (a : Int), Value.pointer (some ⟨nb, a, none⟩), Value.int .i64 (p : Int), Value.int .i32 (b : Int), Value.pointer (some ⟨w2.heap.size + 1, p, none⟩), undef, undef, undef, undef, undef, undef, undef, undef, undef, undef, undef, undef, undef, undef, undef, undef, undef, undef, undef, undef, undef, undef, undef, undef, undef, undef, undef, undef, undef, undef, undef, undef, undef, undef], defers := [] } ∧ w' = (W.setCell ⟨w2.heap.size + 1, p, none⟩ (.int .i32 (b : Int))).drew) ?_ ?_
          · gi_region
            all_goals exact ⟨rfl, rfl, rfl⟩
          · rintro e a' w' ⟨rfl, rfl, rfl⟩
            gi_wp2
            refine ⟨M, ⟨_, _, HF.out.step hx HP.out⟩, ?_, fun b hb => .inl hb⟩
            exact (((Held.same W).set _ (by rw [HF.out.m]; exact .inr rfl)).set _ (by rw [HF.out.m]; exact .inl rfl)).draw 1
        case done2 =>
          rintro M W ⟨f, F, hf⟩ hM hK
          have htk : E.take E.length = E := List.take_length
          have mk5 := makeA25 v (by omega)
          have hdfr := hf.dfr
          have hst0 := hf.start
          have hbx5 := hf.box5
          have hbx9 := hf.box9
          have hallr := hf.all
          have hallv := hf.allv
          rw [htk] at hallv
          have hbW := hf.bel
          have hsW := hf.size
          have hlow := hf.low
          have HALLV : Hid _ := hallv
          clear hf hallv htk hM seq2 fil0
          go_wp2_with fail
          have lrow := World.rowIs_made W (.slice none 0 0) v 43
          have hbl5 := (Below.refl W.heap.size W).alloc (Nat.le_refl _) (.cells (madeCells #[.slice none 0 0] v) 43)
          have hs5 : (W.alloc (.cells (madeCells #[.slice none 0 0] v) 43)).heap.size = W.heap.size + 1 := by simp
          generalize W.alloc (.cells (madeCells #[.slice none 0 0] v) 43) = w5 at *
          go_loopw [72] (fun vu wr => ∃ u : Nat, u ≤ v ∧ vu = .int .i64 (u : Nat) ∧ Below W.heap.size W wr ∧ wr.heap.size = W.heap.size + 1 ∧ wr.rowIs W.heap.size 43 v (fun i => if i < u then adSl E (w2.heap.size + 1) i else .slice none 0 0)) (fun vu _ => v - (intOf vu).toNat)
          case atStart => exact ⟨0, Nat.zero_le _, rfl, hbl5, hs5, lrow.congr (fun i _ => by simp)⟩
          case round =>
            obtain ⟨u, hu, rfl, hbu, hsu, hrow⟩ := hrel
            by_cases hlu : u < v
            · have b9 := (hbu.cell (p := ⟨w2.heap.size + 1 + 1, 0, none⟩) hbx9.lt).trans (hbx9.cell (i := 0) (by omega))
              have b5 := (hbu.cell (p := ⟨w.heap.size + 1, 0, none⟩) hbx5.lt).trans (hbx5.cell (i := 0) (by omega))
              have s0 := (hbu.cell (p := ⟨w.heap.size, u, none⟩) hst0.lt).trans (hst0.cell (i := u) (by omega))
              have s1 := (hbu.cell (p := ⟨w.heap.size, u + 1, none⟩) hst0.lt).trans (hst0.cell (i := u + 1) (by omega))
              have d0 := hrow.cell (i := u) hlu
              have d1 := hrow.frozen u
              have l5 := hbx5.lt
              have l9 := hbx9.lt
              have ll := hrow.lt
              have hen := stA_end (fun e he => (hE e he).1) hlu
              rw [stA_succ] at s1
              obtain ⟨lo, hlo⟩ : ∃ lo, lo = stA E u := ⟨_, rfl⟩
              obtain ⟨cc, hcc⟩ : ∃ cc, cc = cntA E u := ⟨_, rfl⟩
              rw [← hlo, ← hcc] at s1 hen
              rw [← hlo] at s0
              have HLO : Hid (lo = stA E u ∧ cc = cntA E u) := ⟨hlo, hcc⟩
              clear hlo hcc
              have es : ((lo + cc : Nat) : Int) = (lo : Int) + (cc : Int) := by omega
              rw [es] at s1
              have HSU : Hid (wr.heap.size = W.heap.size + 1) := hsu
              have hll : W.heap.size < wr.heap.size := by omega
              clear hsu
              have z1 : ¬ W.heap.size = w2.heap.size + 1 + 1 := by omega
              have z2 : ¬ W.heap.size = w.heap.size + 1 := by omega
              have z3 : ¬ W.heap.size = w.heap.size := by omega
              have q0 : (0 : Int) ≤ (u : Int) := by omega
              have q1 : (u : Int) < (v : Int) + 1 := by omega
              have q2 : (0 : Int) ≤ (u : Int) + 1 := by omega
              have q3 : (u : Int) + 1 < (v : Int) + 1 := by omega
              have q4 : IntKind.i64.wrap ((u : Int) + 1) = (u : Int) + 1 := by rw [IntKind.wrap_i64]; omega
              have q5 : ((u : Int) + 1).toNat = u + 1 := by omega
              have q6 : (u : Int) < (v : Int) := by omega
              have q7 : (0 : Int) ≤ (lo : Int) := by omega
              have q8 : (lo : Int) ≤ (lo : Int) + (cc : Int) := by omega
              have q9 : (lo : Int) + (cc : Int) ≤ (E.length : Int) := by omega
              have q10 : (0 : Int) ≤ (lo : Int) + (cc : Int) := by omega
              have q11 : ((lo : Int) + (cc : Int) - (lo : Int)).toNat = cc := by omega
              have q12 : ((lo : Int) + (cc : Int)).toNat = lo + cc := by omega
              go_wp2_with fail
              go_region_held3 (fun w' => w'.cell? ⟨w2.heap.size + 1 + 1, 0, none⟩ = some (.slice (some ⟨w2.heap.size + 1, 0, none⟩) E.length E.length) ∧ w'.cell? ⟨w.heap.size + 1, 0, none⟩ = some (.slice (some ⟨w.heap.size, 0, none⟩) (v + 1) (v + 1)) ∧ w'.cell? ⟨w.heap.size, u, none⟩ = some (.int .i64 (lo : Int)) ∧ w'.cell? ⟨w.heap.size, u + 1, none⟩ = some (.int .i64 ((lo : Int) + (cc : Int)))) (go_keep) (fail)
              all_goals go_wp2_with fail
              · have hc0 : cc = 0 := by assumption
                go_roundw
                case rel =>
                  refine ⟨u + 1, by omega, by go_num, (below_drewN hbu 1).setCell (Nat.le_refl _) _, by have := HSU.out; simpa using this, ?_⟩
                  refine (World.rowIs.set (w := wr.drewN 1) hrow u _).congr (fun i _ => ?_)
                  by_cases e : i = u
                  · subst e
                    rw [if_pos rfl, if_pos (by omega), adSl, ← HLO.out.1, ← HLO.out.2, if_pos hc0, hc0]
                  · rw [if_neg e]
                    by_cases hi : i < u
                    · rw [if_pos hi, if_pos (by omega)]
                    · rw [if_neg hi, if_neg (by omega)]
                case measure => simp [intOf]; omega
              · have hc0 : ¬ cc = 0 := by assumption
                go_roundw
                case rel =>
                  refine ⟨u + 1, by omega, by go_num, (below_drewN hbu 1).setCell (Nat.le_refl _) _, by have := HSU.out; simpa using this, ?_⟩
                  refine (World.rowIs.set (w := wr.drewN 1) hrow u _).congr (fun i _ => ?_)
                  by_cases e : i = u
                  · subst e
                    rw [if_pos rfl, if_pos (by omega), adSl, ← HLO.out.1, ← HLO.out.2, if_neg hc0]
                  · rw [if_neg e]
                    by_cases hi : i < u
                    · rw [if_pos hi, if_pos (by omega)]
                    · rw [if_neg hi, if_neg (by omega)]
                case measure => simp [intOf]; omega
            · have huv : u = v := by omega
              subst huv
              go_wp2_with fail
              have k1 : wr.heap[w4.heap.size]? = some (.deferred (some [])) := (hbu.block _ (Array.getElem?_eq_some_iff.1 hK).1).trans hK
              have k2 : (wr.putObj w4.heap.size (.deferred none)).heap[w.heap.size + 1 + 1]? = some (.deferred (some [])) := (World.putObj_heap_other (by omega)).trans ((hbu.block _ (Array.getElem?_eq_some_iff.1 hdfr).1).trans hdfr)
              have k1l : w4.heap.size < W.heap.size := (Array.getElem?_eq_some_iff.1 hK).1
              refine ⟨by simp, .inl ⟨_, _, rfl, run_takeDeferred k1, ?_⟩⟩
              refine ⟨by simp, .inl ⟨_, _, rfl, run_takeDeferred k2, ?_⟩⟩
              refine ⟨_, results_tmp rfl _ _ _, W.heap.size, w2.heap.size + 1, F, rfl, ?_, ?_, ?_, by omega, ?_, ?_, HALLV.out⟩
              · exact below_putObjA (below_putObjA (hbW.trans (hbu.mono hbW.size)) (by omega) _) (by omega) _
              · exact hbW.size
              · omega
              · refine ((hrow.congr (fun i hi => by rw [if_pos hi])).of_block (World.putObj_heap_other (by omega))).of_block (World.putObj_heap_other (by omega))
              · exact ((hallr.of_block (hbu.block _ hallr.lt)).of_block (World.putObj_heap_other (by omega))).of_block (World.putObj_heap_other (by omega))

end Go.Proofs.Ybulkbik
