import Derived.Test.YbulkbikPaths2
import Derived.Test.YbulkbikPlainR
import Derived.Deep.DeepCutAuto
import Derived.Deep.CutRange
/-! LawS0114AReach (4). -/
namespace Go.Proofs.Ybulkbik
attribute [local go_sem ↓] Go.wp_at_zero Go.wp_at_succ
open Go.RowKit Go.Maps Go.Sort

theorem compact_mem {d : Array Int} {m : Nat} {x : Int} : x ∈ Lib.compactUpTo d m ↔ ∃ j, j < m ∧ d[j]! = x := by
  unfold Lib.compactUpTo
  constructor
  · intro h
    simp only [List.mem_map, List.mem_filter, List.mem_range] at h
    obtain ⟨j, ⟨h1, _⟩, h2⟩ := h
    exact ⟨j, h1, h2⟩
  · rintro ⟨j, hj, rfl⟩
    simp only [List.mem_map, List.mem_filter, List.mem_range]
    induction j with
    | zero => exact ⟨0, ⟨hj, by simp [Lib.keeps]⟩, rfl⟩
    | succ j ih =>
      by_cases hk : Lib.keeps d (j + 1) = true
      · exact ⟨j + 1, ⟨hj, hk⟩, rfl⟩
      · obtain ⟨i, hi, he⟩ := ih (by omega)
        refine ⟨i, hi, ?_⟩
        simp [Lib.keeps] at hk
        rw [he, hk]

theorem csA_mem {E : List (Nat × Nat)} {v : Nat} {x : Int} : x ∈ csA E v ↔ ∃ u : Nat, (v, u) ∈ E ∧ x = (u : Int) := by
  unfold csA Lib.compact
  rw [compact_mem]
  have key : (∃ j, j < (((succA E v).map fun u : Nat => (u : Int)).mergeSort fun x y => decide (x ≤ y)).length ∧ (((succA E v).map fun u : Nat => (u : Int)).mergeSort fun x y => decide (x ≤ y)).toArray[j]! = x) ↔ x ∈ (((succA E v).map fun u : Nat => (u : Int)).mergeSort fun x y => decide (x ≤ y)) := by
    generalize (((succA E v).map fun u : Nat => (u : Int)).mergeSort fun x y => decide (x ≤ y)) = l
    constructor
    · rintro ⟨j, hj, rfl⟩
      rw [getElem!_pos _ j (by simpa using hj)]
      simp
    · intro h
      obtain ⟨j, hj, rfl⟩ := List.getElem_of_mem h
      exact ⟨j, hj, by rw [getElem!_pos _ j (by simpa using hj)]; simp⟩
  rw [key, List.mem_mergeSort]
  simp only [List.mem_map, succA, List.mem_filter, decide_eq_true_eq]
  constructor
  · rintro ⟨u, ⟨⟨a, b⟩, ⟨he, rfl⟩, rfl⟩, rfl⟩
    exact ⟨b, he, rfl⟩
  · rintro ⟨u, he, rfl⟩
    exact ⟨u, ⟨(v, u), ⟨he, rfl⟩, rfl⟩, rfl⟩

/-- A table of 8 by 8 truth values in memory. -/
def MatAt (b : Nat) (M : Nat → Nat → Bool) (W : World) : Prop := W.rowIs b 42 64 (fun i => .bool (M (i / 8) (i % 8)))

def zero64 : Array Value := Array.replicate 64 (.bool false)

theorem mat_new (w : World) (c : Array Value) (hc : c = zero64) : MatAt w.heap.size (fun _ _ => false) (w.alloc (.cells c 42)) := by
  subst hc
  have := World.rowIs_alloc w zero64 42 (fun _ => .bool false) (fun i hi => by
    have h64 : i < 64 := by simpa [zero64] using hi
    simp [zero64, h64])
  exact this

def Mat.set (M : Nat → Nat → Bool) (a b : Nat) (i j : Nat) : Bool := if i = a ∧ j = b then true else M i j

theorem MatAt.set {b : Nat} {M : Nat → Nat → Bool} {W : World} (h : MatAt b M W) {i j : Nat} (hj : j < 8) : MatAt b (Mat.set M i j) (W.setCell ⟨b, i * 8 + j, none⟩ (.bool true)) := by
  refine (World.rowIs.set h (i * 8 + j) (.bool true)).congr (fun k _ => ?_)
  unfold Mat.set
  by_cases e : k = i * 8 + j
  · rw [if_pos e, if_pos (by omega)]
  · rw [if_neg e, if_neg (by omega)]

theorem MatAt.cell {b : Nat} {M : Nat → Nat → Bool} {W : World} (h : MatAt b M W) {i j : Nat} (hi : i < 8) (hj : j < 8) : W.cell? ⟨b, i * 8 + j, none⟩ = some (.bool (M i j)) := by
  have := World.rowIs.cell h (i := i * 8 + j) (by omega)
  rw [show (i * 8 + j) / 8 = i by omega, show (i * 8 + j) % 8 = j by omega] at this
  exact this

theorem MatAt.other {b : Nat} {M : Nat → Nat → Bool} {W : World} (h : MatAt b M W) {a : Addr} (ha : b ≠ a.block) (v : Value) : MatAt b M (W.setCell a v) := World.rowIs.setOther h ha v

theorem LaidA.of_grown {w w' : World} {n m tb ob sb : Nat} {ib L : Nat → Nat} {V : Nat → Nat → Nat} (h : LaidA w n m tb ob ib L V) (hg : w.grownBy w' (some sb)) (h1 : tb ≠ sb) (h2 : ob ≠ sb) (h3 : ∀ x, x < m → ib x ≠ sb) : LaidA w' n m tb ob ib L V :=
  ⟨rowIs_grown h.txs hg (by simpa using h1), rowIs_grown h.outer hg (by simpa using h2), fun x hx => rowIs_grown (h.inner x hx) hg (by simpa using h3 x hx)⟩

/-- What lies there when the tables are made. -/
structure ReachAt (n m : Nat) (L : Nat → Nat) (V : Nat → Nat → Nat) (E : List (Nat × Nat)) (tb ob : Nat) (ib : Nat → Nat) (acb gx lb ab : Nat) (F : Nat → Int) (W : World) : Prop where
  acc : W.rowIs acb 27 2 (accCell tb ob n m)
  laid : LaidA W n m tb ob ib L V
  gr : W.rowIs gx 39 2 (fun i => if i = 0 then .slice (some ⟨tb, 0, none⟩) n n else .slice (some ⟨lb, 0, none⟩) n n)
  succ : SuccTo n E lb ab n F W

theorem ReachAt.of_block {n m : Nat} {L : Nat → Nat} {V : Nat → Nat → Nat} {E : List (Nat × Nat)} {tb ob : Nat} {ib : Nat → Nat} {acb gx lb ab : Nat} {F : Nat → Int} {W W' : World} (h : ReachAt n m L V E tb ob ib acb gx lb ab F W) (hb : ∀ k, k < W.heap.size → W'.heap[k]? = W.heap[k]?) : ReachAt n m L V E tb ob ib acb gx lb ab F W' :=
  ⟨h.acc.of_block (hb _ h.acc.lt), ⟨h.laid.txs.of_block (hb _ h.laid.txs.lt), h.laid.outer.of_block (hb _ h.laid.outer.lt), fun x hx => (h.laid.inner x hx).of_block (hb _ (h.laid.inner x hx).lt)⟩, h.gr.of_block (hb _ h.gr.lt), h.succ.of_block (hb _ h.succ.top.lt) (hb _ h.succ.row.lt)⟩

/-- The conflicts met so far: at list x, place p, against place q. -/
def PSeen (m : Nat) (L : Nat → Nat) (V : Nat → Nat → Nat) (x p q a b : Nat) : Prop :=
  ∃ x' p' q', x' < m ∧ p' < q' ∧ q' < L x' ∧ Conf (V x' p') (V x' q') ∧ a = V x' p' / 2 ∧ b = V x' q' / 2 ∧ (x' < x ∨ (x' = x ∧ (p' < p ∨ (p' = p ∧ q' < q))))

theorem PSeen.none {m : Nat} {L : Nat → Nat} {V : Nat → Nat → Nat} {a b : Nat} : ¬ PSeen m L V 0 0 1 a b := by
  rintro ⟨x', p', q', _, h2, _, _, _, _, h | ⟨_, h | ⟨_, h⟩⟩⟩ <;> omega

theorem PSeen.nextq {m : Nat} {L : Nat → Nat} {V : Nat → Nat → Nat} {x p q a b : Nat} (hx : x < m) (hpq : p < q) (hq : q < L x) : PSeen m L V x p (q + 1) a b ↔ PSeen m L V x p q a b ∨ (Conf (V x p) (V x q) ∧ a = V x p / 2 ∧ b = V x q / 2) := by
  constructor
  · rintro ⟨x', p', q', h1, h2, h3, h4, h5, h6, h7⟩
    by_cases e : x' = x ∧ p' = p ∧ q' = q
    · obtain ⟨rfl, rfl, rfl⟩ := e
      exact .inr ⟨h4, h5, h6⟩
    · exact .inl ⟨x', p', q', h1, h2, h3, h4, h5, h6, by omega⟩
  · rintro (⟨x', p', q', h1, h2, h3, h4, h5, h6, h7⟩ | ⟨h4, h5, h6⟩)
    · exact ⟨x', p', q', h1, h2, h3, h4, h5, h6, by omega⟩
    · exact ⟨x, p, q, hx, hpq, hq, h4, h5, h6, by omega⟩

theorem PSeen.nextp {m : Nat} {L : Nat → Nat} {V : Nat → Nat → Nat} {x p q a b : Nat} (hq : L x ≤ q) : PSeen m L V x p q a b ↔ PSeen m L V x (p + 1) (p + 1 + 1) a b := by
  constructor
  · rintro ⟨x', p', q', h1, h2, h3, h4, h5, h6, h7⟩
    exact ⟨x', p', q', h1, h2, h3, h4, h5, h6, by omega⟩
  · rintro ⟨x', p', q', h1, h2, h3, h4, h5, h6, h7⟩
    refine ⟨x', p', q', h1, h2, h3, h4, h5, h6, ?_⟩
    rcases h7 with h7 | ⟨rfl, h7⟩
    · exact .inl h7
    · exact .inr ⟨rfl, by omega⟩

theorem PSeen.nextx {m : Nat} {L : Nat → Nat} {V : Nat → Nat → Nat} {x p q a b : Nat} (hp : L x ≤ p) : PSeen m L V x p q a b ↔ PSeen m L V (x + 1) 0 1 a b := by
  constructor
  · rintro ⟨x', p', q', h1, h2, h3, h4, h5, h6, h7⟩
    exact ⟨x', p', q', h1, h2, h3, h4, h5, h6, by omega⟩
  · rintro ⟨x', p', q', h1, h2, h3, h4, h5, h6, h7⟩
    refine ⟨x', p', q', h1, h2, h3, h4, h5, h6, ?_⟩
    by_cases e : x' = x
    · subst e; exact .inr ⟨rfl, by omega⟩
    · exact .inl (by omega)

theorem lstA_get {L : Nat → Nat} {V : Nat → Nat → Nat} {x p y : Nat} : (lstA L V x)[p]? = some y ↔ p < L x ∧ y = V x p := by
  unfold lstA
  rw [List.getElem?_map]
  by_cases h : p < L x
  · rw [List.getElem?_range h]
    simp only [Option.map_some, Option.some.injEq]
    exact ⟨fun e => ⟨h, e.symm⟩, fun e => e.2.symm⟩
  · rw [List.getElem?_eq_none (by simpa using h)]
    simp [h]

theorem PSeen.all {m : Nat} {L : Nat → Nat} {V : Nat → Nat → Nat} {a b : Nat} : PSeen m L V m 0 1 a b ↔ PrecR (lstsA m L V) a b := by
  constructor
  · rintro ⟨x', p', q', h1, h2, h3, h4, h5, h6, _⟩
    exact ⟨lstA L V x', by simp [lstsA]; exact ⟨x', h1, rfl⟩, p', q', V x' p', V x' q', h2, lstA_get.2 ⟨by omega, rfl⟩, lstA_get.2 ⟨h3, rfl⟩, h4, h5, h6⟩
  · rintro ⟨l, hl, p, q, x, y, h1, h2, h3, h4, h5, h6⟩
    simp [lstsA] at hl
    obtain ⟨x', hx', rfl⟩ := hl
    obtain ⟨_, rfl⟩ := lstA_get.1 h2
    obtain ⟨hq, rfl⟩ := lstA_get.1 h3
    exact ⟨x', p, q, hx', h1, hq, h4, h5, h6, .inl hx'⟩

/-- The table says just this. -/
def MB (M : Nat → Nat → Bool) (S : Nat → Nat → Prop) : Prop := ∀ a b, a < 8 → b < 8 → (M a b = true ↔ S a b)

theorem MB.congr {M : Nat → Nat → Bool} {S T : Nat → Nat → Prop} (h : MB M S) (e : ∀ a b, S a b ↔ T a b) : MB M T := fun a b ha hb => (h a b ha hb).trans (e a b)

theorem MB.set {M : Nat → Nat → Bool} {S T : Nat → Nat → Prop} {i j : Nat} (h : MB M S) (e : ∀ a b, T a b ↔ S a b ∨ (a = i ∧ b = j)) : MB (Mat.set M i j) T := fun a b ha hb => by
  rw [e, ← h a b ha hb]
  unfold Mat.set
  by_cases hc : a = i ∧ b = j
  · rw [if_pos hc]; simp [hc]
  · rw [if_neg hc]; simp [hc]

theorem scSl_at (E : List (Nat × Nat)) (ab v : Nat) : ∃ o, scSl E ab v = .slice (some ⟨ab, o, none⟩) (csA E v).length (cntA E v) ∧ (0 < (csA E v).length → o = stA E v) := by
  unfold scSl
  by_cases h : cntA E v = 0
  · rw [if_pos h]
    exact ⟨0, rfl, fun hl => by have := csA_len E v; omega⟩
  · rw [if_neg h]
    exact ⟨_, rfl, fun _ => rfl⟩

/-- The reduced edges met so far: at node v, place j of its list. -/
def RSeen (E : List (Nat × Nat)) (v j a b : Nat) : Prop := (a < v ∧ (b : Int) ∈ csA E a) ∨ (a = v ∧ ∃ i, i < j ∧ (csA E v)[i]? = some (b : Int))

theorem RSeen.none {E : List (Nat × Nat)} {a b : Nat} : ¬ RSeen E 0 0 a b := by
  rintro (⟨h, _⟩ | ⟨_, i, h, _⟩) <;> omega

theorem RSeen.nextj {E : List (Nat × Nat)} {v j u a b : Nat} (h : (csA E v)[j]? = some (u : Int)) : RSeen E v (j + 1) a b ↔ RSeen E v j a b ∨ (a = v ∧ b = u) := by
  constructor
  · rintro (h1 | ⟨rfl, i, hi, hv⟩)
    · exact .inl (.inl h1)
    · by_cases e : i = j
      · subst e
        rw [h] at hv
        injection hv with hv
        exact .inr ⟨rfl, by omega⟩
      · exact .inl (.inr ⟨rfl, i, by omega, hv⟩)
  · rintro ((h1 | ⟨rfl, i, hi, hv⟩) | ⟨rfl, rfl⟩)
    · exact .inl h1
    · exact .inr ⟨rfl, i, by omega, hv⟩
    · exact .inr ⟨rfl, j, by omega, h⟩

theorem RSeen.nextv {E : List (Nat × Nat)} {v j a b : Nat} (hj : (csA E v).length ≤ j) : RSeen E v j a b ↔ RSeen E (v + 1) 0 a b := by
  constructor
  · rintro (⟨h1, h2⟩ | ⟨rfl, i, hi, hv⟩)
    · exact .inl ⟨by omega, h2⟩
    · exact .inl ⟨by omega, List.mem_of_getElem? hv⟩
  · rintro (⟨h1, h2⟩ | ⟨rfl, i, hi, hv⟩)
    · by_cases e : a = v
      · subst e
        obtain ⟨i, hi, he⟩ := List.getElem_of_mem h2
        exact .inr ⟨rfl, i, by omega, by rw [List.getElem?_eq_getElem hi, he]⟩
      · exact .inl ⟨by omega, h2⟩
    · omega

theorem RSeen.all {E : List (Nat × Nat)} {n a b : Nat} (h : ∀ e ∈ E, e.1 < n ∧ e.2 < n) : RSeen E n 0 a b ↔ EdgeR E a b := by
  constructor
  · rintro (⟨_, h2⟩ | ⟨_, i, hi, _⟩)
    · obtain ⟨u, hu, e⟩ := csA_mem.1 h2
      have : b = u := by omega
      subst this
      exact hu
    · omega
  · intro he
    exact .inl ⟨(h _ he).1, csA_mem.2 ⟨b, he, rfl⟩⟩

/-- The table says just this of the first n. -/
def MBn (n : Nat) (M : Nat → Nat → Bool) (S : Nat → Nat → Prop) : Prop := ∀ a b, a < n → b < n → (M a b = true ↔ S a b)

/-- Where the closing stands: at node k, pair (i, j). -/
def WS (S : Nat → Nat → Prop) (k i j a b : Nat) : Prop := Via S k a b ∨ ((a < i ∨ (a = i ∧ b < j)) ∧ Via S k a k ∧ Via S k k b)

theorem WS.start {S : Nat → Nat → Prop} {k a b : Nat} : Via S k a b ↔ WS S k 0 0 a b := by
  unfold WS
  constructor
  · exact .inl
  · rintro (h | ⟨h | ⟨_, h⟩, _⟩)
    · exact h
    · omega
    · omega

theorem WS.col {S : Nat → Nat → Prop} {k i j a : Nat} : WS S k i j a k ↔ Via S k a k := ⟨fun h => h.elim id (fun h => h.2.1), .inl⟩
theorem WS.row {S : Nat → Nat → Prop} {k i j b : Nat} : WS S k i j k b ↔ Via S k k b := ⟨fun h => h.elim id (fun h => h.2.2), .inl⟩

theorem WS.nextj {S : Nat → Nat → Prop} {k i j a b : Nat} : WS S k i (j + 1) a b ↔ WS S k i j a b ∨ (Via S k i k ∧ Via S k k j ∧ a = i ∧ b = j) := by
  unfold WS
  constructor
  · rintro (h | ⟨h, h1, h2⟩)
    · exact .inl (.inl h)
    · by_cases e : a = i ∧ b = j
      · obtain ⟨rfl, rfl⟩ := e
        exact .inr ⟨h1, h2, rfl, rfl⟩
      · exact .inl (.inr ⟨by omega, h1, h2⟩)
  · rintro ((h | ⟨h, h1, h2⟩) | ⟨h1, h2, rfl, rfl⟩)
    · exact .inl h
    · exact .inr ⟨by omega, h1, h2⟩
    · exact .inr ⟨by omega, h1, h2⟩

theorem WS.nexti {S : Nat → Nat → Prop} {n k i a b : Nat} (hb : b < n) : WS S k i n a b ↔ WS S k (i + 1) 0 a b := by
  unfold WS
  have : (a < i ∨ (a = i ∧ b < n)) ↔ (a < i + 1 ∨ (a = i + 1 ∧ b < 0)) := by omega
  rw [this]

theorem WS.nextk {S : Nat → Nat → Prop} {n k a b : Nat} (ha : a < n) : WS S k n 0 a b ↔ WS S (k + 1) 0 0 a b := by
  rw [← WS.start]
  unfold WS
  show _ ↔ Via S k a b ∨ (Via S k a k ∧ Via S k k b)
  constructor
  · rintro (h | ⟨_, h⟩)
    · exact .inl h
    · exact .inr h
  · rintro (h | h)
    · exact .inl h
    · exact .inr ⟨.inl ha, h⟩

theorem WS.step_yes {S : Nat → Nat → Prop} {n k i j : Nat} {M : Nat → Nat → Bool} (h : MBn n M (WS S k i j)) (hi : i < n) (hj : j < n) (hk : k < n) (h1 : M i k = true) (h2 : M k j = true) : MBn n (Mat.set M i j) (WS S k i (j + 1)) := fun a b ha hb => by
  have e1 := WS.col.1 ((h i k hi hk).1 h1)
  have e2 := WS.row.1 ((h k j hk hj).1 h2)
  rw [WS.nextj, ← h a b ha hb]
  unfold Mat.set
  by_cases hc : a = i ∧ b = j
  · rw [if_pos hc]; simp [e1, e2, hc]
  · rw [if_neg hc]; simp [e1, e2, hc]

theorem WS.step_no {S : Nat → Nat → Prop} {n k i j : Nat} {M : Nat → Nat → Bool} (h : MBn n M (WS S k i j)) (hi : i < n) (hj : j < n) (hk : k < n) (h1 : (M i k && M k j) = false) : MBn n M (WS S k i (j + 1)) := fun a b ha hb => by
  rw [WS.nextj, ← h a b ha hb]
  have : ¬ (Via S k i k ∧ Via S k k j) := by
    rintro ⟨e1, e2⟩
    rw [(h i k hi hk).2 (WS.col.2 e1), (h k j hk hj).2 (WS.row.2 e2)] at h1
    cases h1
  constructor
  · exact .inl
  · rintro (h | ⟨e1, e2, _⟩)
    · exact h
    · exact absurd ⟨e1, e2⟩ this

set_option maxRecDepth 100000 in
set_option maxHeartbeats 4000000 in
theorem reach4 (a0 : Option Addr) (m cap : Nat) (A : Nat → Option Addr) (L C : Nat → Nat) (Z : Nat → Nat → Nat) (w : World) (z : Nat) (hz : z < 256) (h : RawArg w a0 m A L C Z) (hb : bigA m L = false) :
    Calls Yba.prog 4 #[.int .u8 (z : Nat), .slice a0 m cap] w fun e w' => e = .returned (.bool true) ∧ Below w.heap.size w w' := by
  have hm : m ≤ 256 ∧ sumTo L m ≤ 1024 := by
    simp only [bigA, Bool.or_eq_false_iff, decide_eq_false_iff_not] at hb
    omega
  have c9 := toobig9 a0 m cap A L C Z w h
  rw [hb] at c9
  have c10 := build10 a0 m cap A L C Z w z hz h hm.1 hm.2
  obtain ⟨n, hn⟩ : ∃ n, n = z % 8 + 1 := ⟨_, rfl⟩
  rw [← hn] at c10
  have hi : InA n m L (fun x k => accV n (Z x k)) := ⟨by omega, by omega, hm.1, hm.2, fun x k _ _ => accV_lt (by omega)⟩
  clear hn hb
  generalize (fun x k => accV n (Z x k)) = V at c10 hi
  go_enter Yba.func4, Yba.ntmps4
  go_wp2_with (first
    | (go_at_call 9; refine c9.mono ?_; rintro e w1 ⟨rfl, rfl⟩)
    | (go_at_call 10; refine c10.mono ?_; rintro e w2 ⟨rfl, b2, hl2⟩))
  have bb2 := ((Below.refl w2.heap.size w2).alloc (Nat.le_refl _) (.cells #[.slice (some ⟨w1.heap.size + 1, 0, none⟩) n n, .slice (some ⟨w1.heap.size + 1 + 1, 0, none⟩) m m] 27)).alloc (by simp) (.cells #[.pointer none, .pointer (some ⟨w2.heap.size, 0, none⟩), .pointer none, .slice none 0 0, .pointer none] 37)
  have hacc : ((w2.alloc (.cells #[.slice (some ⟨w1.heap.size + 1, 0, none⟩) n n, .slice (some ⟨w1.heap.size + 1 + 1, 0, none⟩) m m] 27)).alloc (.cells #[.pointer none, .pointer (some ⟨w2.heap.size, 0, none⟩), .pointer none, .slice none 0 0, .pointer none] 37)).rowIs w2.heap.size 27 2 (accCell (w1.heap.size + 1) (w1.heap.size + 1 + 1) n m) :=
    ((row2_new w2 _ _ 27).alloc _)
  have hsrc : ((w2.alloc (.cells #[.slice (some ⟨w1.heap.size + 1, 0, none⟩) n n, .slice (some ⟨w1.heap.size + 1 + 1, 0, none⟩) m m] 27)).alloc (.cells #[.pointer none, .pointer (some ⟨w2.heap.size, 0, none⟩), .pointer none, .slice none 0 0, .pointer none] 37)).rowIs (w2.heap.size + 1) 37 5 (srcCell w2.heap.size none) := by
    have := World.rowIs_alloc (w2.alloc (.cells #[.slice (some ⟨w1.heap.size + 1, 0, none⟩) n n, .slice (some ⟨w1.heap.size + 1 + 1, 0, none⟩) m m] 27)) #[.pointer none, .pointer (some ⟨w2.heap.size, 0, none⟩), .pointer none, .slice none 0 0, .pointer none] 37 (srcCell w2.heap.size none) (fun i hi => by
      match i, hi with
      | 0, _ => rfl
      | 1, _ => rfl
      | 2, _ => rfl
      | 3, _ => rfl
      | 4, _ => rfl)
    simpa using this
  have hsz2 : ((w2.alloc (.cells #[.slice (some ⟨w1.heap.size + 1, 0, none⟩) n n, .slice (some ⟨w1.heap.size + 1 + 1, 0, none⟩) m m] 27)).alloc (.cells #[.pointer none, .pointer (some ⟨w2.heap.size, 0, none⟩), .pointer none, .slice none 0 0, .pointer none] 37)).heap.size = w2.heap.size + 1 + 1 := by simp
  have c11 := paths11 (w2.heap.size + 1) w2.heap.size (w1.heap.size + 1) (w1.heap.size + 1 + 1) n m _ L V _ (hl2.of_below bb2) hi hsrc hacc
  generalize (w2.alloc (.cells #[.slice (some ⟨w1.heap.size + 1, 0, none⟩) n n, .slice (some ⟨w1.heap.size + 1 + 1, 0, none⟩) m m] 27)).alloc (.cells #[.pointer none, .pointer (some ⟨w2.heap.size, 0, none⟩), .pointer none, .slice none 0 0, .pointer none] 37) = w3 at *
  refine c11.mono ?_
  rintro e w4 ⟨gb, lb, ab, F, rfl, hg4, hs4, hgb, hlb, hab, hgr⟩
  clear c9 c10 c11
  have hlen : ((n : Int) == (n : Int)) = true := by simp
  go_upto_region 9 with fail
  have r5 : ReachAt n m L V (edgesA (lstsA m L V)) (w1.heap.size + 1) (w1.heap.size + 1 + 1) (fun x => w1.heap.size + 1 + 1 + 1 + x) w2.heap.size w4.heap.size lb ab F (w4.alloc (.cells #[.slice (some ⟨w1.heap.size + 1, 0, none⟩) n n, .slice (some ⟨lb, 0, none⟩) n n] 39)) := by
    have hl3 := hl2.of_below bb2
    have hl4 : LaidA w4 n m _ _ _ L V := hl3.of_grown hg4 (by have := hl2.txs.lt; omega) (by have := hl2.outer.lt; omega) (fun x hx => by have := (hl2.inner x hx).lt; omega)
    exact ⟨(rowIs_grown hacc hg4 (by simp)).alloc _, ⟨hl4.txs.alloc _, hl4.outer.alloc _, fun x hx => (hl4.inner x hx).alloc _⟩, row2_new w4 _ _ 39, hgr.succ.of_block (Below.heap_alloc _ _ _ hgr.succ.top.lt) (Below.heap_alloc _ _ _ hgr.succ.row.lt)⟩
  have b5 : Below w1.heap.size w1 (w4.alloc (.cells #[.slice (some ⟨w1.heap.size + 1, 0, none⟩) n n, .slice (some ⟨lb, 0, none⟩) n n] 39)) := by
    have hb3 := b2.trans (bb2.mono b2.size)
    have := b2.size
    exact (hb3.grown hg4 hb3.size (fun k e => by cases e; omega)).alloc (by have := hb3.size; have := hg4.size; omega) _
  have hs5 : (w4.alloc (.cells #[.slice (some ⟨w1.heap.size + 1, 0, none⟩) n n, .slice (some ⟨lb, 0, none⟩) n n] 39)).heap.size = w4.heap.size + 1 := by simp
  generalize w4.alloc (.cells #[.slice (some ⟨w1.heap.size + 1, 0, none⟩) n n, .slice (some ⟨lb, 0, none⟩) n n] 39) = w5 at *
  have h64 : (#[Value.bool false, Value.bool false, Value.bool false, Value.bool false, Value.bool false, Value.bool false, Value.bool false, Value.bool false, Value.bool false, Value.bool false, Value.bool false, Value.bool false, Value.bool false, Value.bool false, Value.bool false, Value.bool false, Value.bool false, Value.bool false, Value.bool false, Value.bool false, Value.bool false, Value.bool false, Value.bool false, Value.bool false, Value.bool false, Value.bool false, Value.bool false, Value.bool false, Value.bool false, Value.bool false, Value.bool false, Value.bool false, Value.bool false, Value.bool false, Value.bool false, Value.bool false, Value.bool false, Value.bool false, Value.bool false, Value.bool false, Value.bool false, Value.bool false, Value.bool false, Value.bool false, Value.bool false, Value.bool false, Value.bool false, Value.bool false, Value.bool false, Value.bool false, Value.bool false, Value.bool false, Value.bool false, Value.bool false, Value.bool false, Value.bool false, Value.bool false, Value.bool false, Value.bool false, Value.bool false, Value.bool false, Value.bool false, Value.bool false, Value.bool false] : Array Value) = zero64 := rfl
  rw [h64]
  clear h64
  have r7 : ReachAt n m L V (edgesA (lstsA m L V)) (w1.heap.size + 1) (w1.heap.size + 1 + 1) (fun x => w1.heap.size + 1 + 1 + 1 + x) w2.heap.size w4.heap.size lb ab F ((w5.alloc (.cells zero64 42)).alloc (.cells zero64 42)) :=
    (r5.of_block (fun k hk => Below.heap_alloc _ _ _ hk)).of_block (fun k hk => Below.heap_alloc _ _ _ hk)
  have b7 : Below w1.heap.size w1 ((w5.alloc (.cells zero64 42)).alloc (.cells zero64 42)) := (b5.alloc b5.size _).alloc (by have := b5.size; simp; omega) _
  have m1 : MatAt (w4.heap.size + 1) (fun _ _ => false) ((w5.alloc (.cells zero64 42)).alloc (.cells zero64 42)) := by
    have := mat_new w5 _ rfl
    rw [hs5] at this
    exact World.rowIs.alloc this _
  have m2 : MatAt (w4.heap.size + 1 + 1) (fun _ _ => false) ((w5.alloc (.cells zero64 42)).alloc (.cells zero64 42)) := by
    have := mat_new (w5.alloc (.cells zero64 42)) _ rfl
    simp only [World.size_alloc, hs5] at this
    exact this
  have hs7 : ((w5.alloc (.cells zero64 42)).alloc (.cells zero64 42)).heap.size = w4.heap.size + 1 + 1 + 1 := by simp [hs5]
  generalize (w5.alloc (.cells zero64 42)).alloc (.cells zero64 42) = w7 at *
  have lb1 := hgr.succ.top.lt
  have lb2 := hgr.succ.row.lt
  have hz4 := hg4.size
  have hz2 := b2.size
  have q1 : w2.heap.size < w4.heap.size := by omega
  have q2 : w1.heap.size + 1 + 1 < w4.heap.size := by have := hl2.outer.lt; omega
  have q0 : Hid (w1.heap.size ≤ w4.heap.size) := by show _ ≤ _; omega
  have q3 : ∀ x, x < m → (fun x => w1.heap.size + 1 + 1 + 1 + x) x < w4.heap.size := fun x hx => by have := (hl2.inner x hx).lt; simp only []; omega
  clear r5 b5 hs5 hgr hs4 hg4 hacc hsrc bb2 b2 hl2 hsz2
  generalize (fun x => w1.heap.size + 1 + 1 + 1 + x) = ib at r7 q3
  generalize w1.heap.size + 1 + 1 = ob at r7 q2 ⊢
  generalize w1.heap.size + 1 = tb at r7 ⊢
  generalize w2.heap.size = acb at r7 q1 ⊢
  generalize hG : w4.heap.size = G at *
  generalize hEE : edgesA (lstsA m L V) = E at r7
  have HEE : Hid (edgesA (lstsA m L V) = E) := hEE
  clear hEE
  have a1 := r7.acc.cell (i := 1) (by omega)
  rw [show accCell tb ob n m 1 = .slice (some ⟨ob, 0, none⟩) m m from rfl] at a1
  go_wp2_with fail
  go_loopw [45] (fun vx wr => ∃ (x : Nat) (M : Nat → Nat → Bool), x ≤ m ∧ vx = .int .i64 (x : Nat) ∧ Below (G + 1) w7 wr ∧ MatAt (G + 1) M wr ∧ MatAt (G + 1 + 1) (fun _ _ => false) wr ∧ Hid (MB M (PSeen m L V x 0 1))) (fun vx _ => m - (intOf vx).toNat)
  case atStart => exact ⟨0, fun _ _ => false, Nat.zero_le _, rfl, Below.refl _ _, m1, m2, fun a b _ _ => by simp [PSeen.none]⟩
  case round =>
    clear m1 m2
    obtain ⟨x, M, hx, rfl, bel, m1, m2, HMB⟩ := hrel
    by_cases hlx : x < m
    · have oc := (bel.cell (p := ⟨ob, x, none⟩) (by simp; omega)).trans (r7.laid.outer.cell (i := x) hlx)
      have hLx : L x ≤ 1024 := Nat.le_trans (sumTo_get L hlx) hi.sum
      have il := q3 x hlx
      have hol := Nat.lt_of_lt_of_le r7.laid.outer.lt bel.size
      go_wp2_with fail
      clear oc
      go_loopw [13] (fun vp wr => ∃ (p : Nat) (M : Nat → Nat → Bool), p ≤ L x ∧ vp = .int .i64 (p : Nat) ∧ Below (G + 1) w7 wr ∧ MatAt (G + 1) M wr ∧ MatAt (G + 1 + 1) (fun _ _ => false) wr ∧ Hid (MB M (PSeen m L V x p (p + 1)))) (fun vp _ => L x - (intOf vp).toNat)
      case atStart => exact ⟨0, M, Nat.zero_le _, rfl, bel, m1, m2, HMB⟩
      case round =>
        clear m1 m2 bel HMB hol M
        obtain ⟨p, M, hp, rfl, bel, m1, m2, HMB⟩ := hrel
        by_cases hlp : p < L x
        · go_wp2_with fail
          go_loopw [14] (fun vq wr => ∃ (q : Nat) (M : Nat → Nat → Bool), p < q ∧ q ≤ L x ∧ vq = .int .i64 (q : Nat) ∧ Below (G + 1) w7 wr ∧ MatAt (G + 1) M wr ∧ MatAt (G + 1 + 1) (fun _ _ => false) wr ∧ Hid (MB M (PSeen m L V x p q))) (fun vq _ => L x - (intOf vq).toNat)
          case atStart => exact ⟨p + 1, M, by omega, by omega, by go_num, bel, m1, m2, HMB⟩
          case round =>
            clear m1 m2 bel HMB M
            obtain ⟨q, M, hpq, hq, rfl, bel, m1, m2, HMB⟩ := hrel
            by_cases hlq : q < L x
            · have cp := (bel.cell (p := ⟨ib x, p, none⟩) (by simp; omega)).trans ((r7.laid.inner x hlx).cell (i := p) hlp)
              have cq := (bel.cell (p := ⟨ib x, q, none⟩) (by simp; omega)).trans ((r7.laid.inner x hlx).cell (i := q) hlq)
              have hvp := hi.val x p hlx hlp
              have hvq := hi.val x q hlx hlq
              have hn8 := hi.n8
              have hS := fun a b => PSeen.nextq (V := V) (a := a) (b := b) hlx hpq hlq
              obtain ⟨vp, hvp'⟩ : ∃ vp, vp = V x p := ⟨_, rfl⟩
              obtain ⟨vq, hvq'⟩ : ∃ vq, vq = V x q := ⟨_, rfl⟩
              rw [← hvp'] at cp hvp hS
              rw [← hvq'] at cq hvq hS
              obtain ⟨a, ha⟩ : ∃ a, a = vp / 2 := ⟨_, rfl⟩
              obtain ⟨b, hb⟩ : ∃ b, b = vq / 2 := ⟨_, rfl⟩
              have ea : (vp : Int) / 2 = (a : Int) := by rw [ha]; rfl
              have eb : (vq : Int) / 2 = (b : Int) := by rw [hb]; rfl
              have ep := and1i vp (by omega)
              have eq' := and1i vq (by omega)
              have la : a < 8 := by omega
              have lb' : b < 8 := by omega
              have mc := m1.cell la lb'
              have mf := World.rowIs.frozen m1 (a * 8 + b)
              have ml := World.rowIs.lt m1
              have HSS : Hid _ := hS
              have HA : Hid (a = vp / 2 ∧ b = vq / 2) := ⟨ha, hb⟩
              obtain ⟨dp, hdp⟩ : ∃ dp, dp = vp % 2 := ⟨_, rfl⟩
              obtain ⟨dq, hdq⟩ : ∃ dq, dq = vq % 2 := ⟨_, rfl⟩
              rw [← hdp] at ep
              rw [← hdq] at eq'
              have HC : Hid (Conf vp vq ↔ a ≠ b ∧ (dp = 1 ∨ dq = 1)) := by show _ ↔ _; rw [ha, hb, hdp, hdq]; rfl
              have l2p : dp < 2 := by omega
              have l2q : dq < 2 := by omega
              clear ha hb hdp hdq hS hvp' hvq'
              have z1 : (0 : Int) ≤ (p : Int) := by omega
              have z2 : (p : Int) < (L x : Int) := by omega
              have z3 : (0 : Int) ≤ (q : Int) := by omega
              have z4 : (q : Int) < (L x : Int) := by omega
              go_wp2_with fail
              go_quiet (fail)
              have bel8 := below_drewN bel nq
              have m18 : MatAt (G + 1) M (wr.drewN nq) := m1
              have m28 : MatAt (G + 1 + 1) (fun _ _ => false) (wr.drewN nq) := m2
              have cp8 : (wr.drewN nq).cell? ⟨ib x, p, none⟩ = some (.int .i32 (vp : Int)) := cp
              have cq8 : (wr.drewN nq).cell? ⟨ib x, q, none⟩ = some (.int .i32 (vq : Int)) := cq
              have mc8 : (wr.drewN nq).cell? ⟨G + 1, a * 8 + b, none⟩ = some (.bool (M a b)) := mc
              have mf8 : (wr.drewN nq).frozen? ⟨G + 1, a * 8 + b, none⟩ = false := mf
              have ml8 : G + 1 < (wr.drewN nq).heap.size := ml
              clear bel m1 m2 cp cq mc mf ml
              generalize wr.drewN nq = w8 at *
              go_upto_region 19 with fail
              go_cut [91] (fun vc wx => ∃ c : Bool, vc = .bool c ∧ Hid (c = true ↔ Conf vp vq) ∧ wx = w8)
              case first =>
                by_cases hab' : a = b
                · have t1 : ((a : Int) != (b : Int)) = false := by simp [hab']
                  have HF : Hid (false = true ↔ Conf vp vq) := by show _ ↔ _; rw [HC.out]; simp [hab']
                  clear hab'
                  go_wp2_with fail
                  all_goals go_meet
                  all_goals exact ⟨false, rfl, HF, rfl⟩
                · have t1 : ((a : Int) != (b : Int)) = true := by simp; omega
                  have t2 : ¬ (a : Int) = (b : Int) := by omega
                  by_cases hd1 : dp = 1
                  · have HF : Hid (Conf vp vq) := by show Conf vp vq; rw [HC.out]; simp [hab', hd1]
                    subst hd1
                    go_wp2_with fail
                    all_goals go_meet
                    all_goals exact ⟨true, rfl, ⟨fun _ => HF.out, fun _ => rfl⟩, rfl⟩
                  · obtain rfl : dp = 0 := by omega
                    by_cases hd2 : dq = 1
                    · have HF : Hid (Conf vp vq) := by show Conf vp vq; rw [HC.out]; simp [hab', hd2]
                      subst hd2
                      go_wp2_with fail
                      all_goals go_meet
                      all_goals exact ⟨true, rfl, ⟨fun _ => HF.out, fun _ => rfl⟩, rfl⟩
                    · obtain rfl : dq = 0 := by omega
                      have HF : Hid (false = true ↔ Conf vp vq) := by show _ ↔ _; rw [HC.out]; simp
                      go_wp2_with fail
                      all_goals go_meet
                      all_goals exact ⟨false, rfl, HF, rfl⟩
              case rest =>
                obtain ⟨c, rfl, HCC, rfl⟩ := hcut
                cases c with
                | true =>
                  go_wp2_with fail
                  go_roundw
                  case rel =>
                    refine ⟨q + 1, Mat.set M a b, by omega, by omega, by go_num, bel8.setCell (by simp) _, m18.set lb', m28.other (by simp) _, MB.set HMB.out (fun a' b' => ?_)⟩
                    rw [HSS.out, ← HA.out.1, ← HA.out.2]
                    simp [HCC.out.1 rfl]
                  case measure => simp [intOf]; omega
                | false =>
                  go_wp2_with fail
                  go_roundw
                  case rel =>
                    refine ⟨q + 1, M, by omega, by omega, by go_num, bel8, m18, m28, MB.congr HMB.out (fun a' b' => ?_)⟩
                    rw [HSS.out]
                    have : ¬ Conf vp vq := fun h => by have := HCC.out.2 h; cases this
                    simp [this]
                  case measure => simp [intOf]; omega
            · go_wp2_with fail
              go_roundw
              case rel => exact ⟨p + 1, M, by omega, by go_num, bel, m1, m2, MB.congr HMB.out (fun a' b' => PSeen.nextp (by omega))⟩
              case measure => simp [intOf]; omega
        · go_wp2_with fail
          go_roundw
          case rel => exact ⟨x + 1, M, by omega, by go_num, bel, m1, m2, MB.congr HMB.out (fun a' b' => PSeen.nextx (by omega))⟩
          case measure => simp [intOf]; omega
    · have hxm : x = m := by omega
      have HMP : Hid (MB M (PrecR (lstsA m L V))) := MB.congr HMB.out (fun a' b' => by rw [hxm]; exact PSeen.all)
      clear HMB
      have hEE := HEE.out
      have hElt : ∀ e ∈ E, e.1 < n ∧ e.2 < n := by rw [← hEE]; exact hi.lt
      have hElen : E.length ≤ 4096 := by rw [← hEE]; exact hi.len
      have HELT : Hid _ := hElt
      clear hEE hElt a1
      go_wp2_with fail
      go_loopw [17] (fun vv wr => ∃ (v : Nat) (M2 : Nat → Nat → Bool), v ≤ n ∧ vv = .int .i64 (v : Nat) ∧ Below (G + 1) w7 wr ∧ MatAt (G + 1) M wr ∧ MatAt (G + 1 + 1) M2 wr ∧ Hid (MB M2 (RSeen E v 0))) (fun vv _ => n - (intOf vv).toNat)
      case atStart => exact ⟨0, fun _ _ => false, Nat.zero_le _, rfl, bel, m1, m2, fun a b _ _ => by simp [RSeen.none]⟩
      case round =>
        clear m1 m2 bel
        obtain ⟨v, M2, hv, rfl, bel, m1, m2, HMR⟩ := hrel
        have hn8 := hi.n8
        by_cases hlv : v < n
        · obtain ⟨o, hsc, ho⟩ := scSl_at E ab v
          have gc := (bel.cell (p := ⟨G, 1, none⟩) (by simp)).trans (r7.gr.cell (i := 1) (by omega))
          have tc := (bel.cell (p := ⟨lb, v, none⟩) (by simp; omega)).trans (r7.succ.top.cell (i := v) hlv)
          rw [if_pos hlv, hsc] at tc
          rw [if_neg (by omega)] at gc
          have gl := Nat.lt_of_lt_of_le r7.gr.lt bel.size
          have tl := Nat.lt_of_lt_of_le r7.succ.top.lt bel.size
          have hcl := csA_len E v
          have hce := stA_end (fun e he => (HELT.out e he).1) hlv
          obtain ⟨ln, hln⟩ : ∃ ln, ln = (csA E v).length := ⟨_, rfl⟩
          rw [← hln] at tc ho hcl
          have HLN : Hid (ln = (csA E v).length) := hln
          clear hln hsc
          generalize cntA E v = ct at tc hcl hce
          go_wp2_with fail
          go_loopw [108] (fun vj wr => ∃ (j : Nat) (M2 : Nat → Nat → Bool), j ≤ ln ∧ vj = .int .i64 (j : Nat) ∧ Below (G + 1) w7 wr ∧ MatAt (G + 1) M wr ∧ MatAt (G + 1 + 1) M2 wr ∧ Hid (MB M2 (RSeen E v j))) (fun vj _ => ln - (intOf vj).toNat)
          case atStart => exact ⟨0, M2, Nat.zero_le _, rfl, bel, m1, m2, HMR⟩
          case round =>
            clear m1 m2 bel HMR M2 gc tc gl tl
            obtain ⟨j, M2, hj, rfl, bel, m1, m2, HMR⟩ := hrel
            by_cases hlj : j < ln
            · have hoe := ho (by omega)
              subst hoe
              have ac := (bel.cell (p := ⟨ab, stA E v + j, none⟩) (by simp; omega)).trans (r7.succ.row.cell (i := stA E v + j) (by omega))
              have hcj : j < (csA E v).length := by rw [← HLN.out]; exact hlj
              have hgv : (csA E v)[j]? = some (csA E v)[j]! := by rw [List.getElem?_eq_getElem hcj, getElem!_pos _ j hcj]
              obtain ⟨u, hu, hue⟩ := csA_mem.1 (List.mem_of_getElem? hgv)
              rw [r7.succ.done v hlv j hcj, hue] at ac
              rw [hue] at hgv
              have hun := (HELT.out _ hu).2
              simp only [] at hun
              have HGV : Hid ((csA E v)[j]? = some (u : Int)) := hgv
              clear hgv hu hue hcj
              have mc := m2.cell (i := v) (j := u) (by omega) (by omega)
              have mf := World.rowIs.frozen m2 (v * 8 + u)
              have ml := World.rowIs.lt m2
              have al := Nat.lt_of_lt_of_le r7.succ.row.lt bel.size
              have t1 : ¬ (u : Int) < 0 := by omega
              have t2 : ¬ (n : Int) ≤ (u : Int) := by omega
              have t3 : (u : Int) < (n : Int) := by omega
              generalize stA E v = sv at ac hce
              go_wp2_with fail
              go_roundw
              case rel => exact ⟨j + 1, Mat.set M2 v u, by omega, by go_num, bel.setCell (by simp) _, m1.other (by simp) _, m2.set (by omega), MB.set HMR.out (fun a' b' => RSeen.nextj HGV.out)⟩
              case measure => simp [intOf]; omega
            · go_wp2_with fail
              go_roundw
              case rel => exact ⟨v + 1, M2, by omega, by go_num, bel, m1, m2, MB.congr HMR.out (fun a' b' => RSeen.nextv (by rw [← HLN.out]; omega))⟩
              case measure => simp [intOf]; omega
        · have hvn : v = n := by omega
          have HMR2 : Hid (MB M2 (EdgeR E)) := MB.congr HMR.out (fun a' b' => by rw [hvn]; exact RSeen.all HELT.out)
          clear HMR
          have HW1 : Hid (MBn n M (WS (PrecR (lstsA m L V)) 0 0 0)) := fun a b ha hb => (HMP.out a b (by omega) (by omega)).trans (WS.start (S := PrecR (lstsA m L V)) (k := 0))
          have HW2 : Hid (MBn n M2 (WS (EdgeR E) 0 0 0)) := fun a b ha hb => (HMR2.out a b (by omega) (by omega)).trans (WS.start (S := EdgeR E) (k := 0))
          clear HMP HMR2
          go_wp2_with fail
          go_loopw [20] (fun vk wr => ∃ (k : Nat) (M M2 : Nat → Nat → Bool), k ≤ n ∧ vk = .int .i64 (k : Nat) ∧ Below (G + 1) w7 wr ∧ MatAt (G + 1) M wr ∧ MatAt (G + 1 + 1) M2 wr ∧ Hid (MBn n M (WS (PrecR (lstsA m L V)) k 0 0)) ∧ Hid (MBn n M2 (WS (EdgeR E) k 0 0))) (fun vk _ => n - (intOf vk).toNat)
          case atStart => exact ⟨0, M, M2, Nat.zero_le _, rfl, bel, m1, m2, HW1, HW2⟩
          case round =>
            clear m1 m2 bel HW1 HW2
            obtain ⟨k, M, M2, hk, rfl, bel, m1, m2, HW1, HW2⟩ := hrel
            by_cases hlk : k < n
            · go_wp2_with fail
              go_loopw [21] (fun vi wr => ∃ (i : Nat) (M M2 : Nat → Nat → Bool), i ≤ n ∧ vi = .int .i64 (i : Nat) ∧ Below (G + 1) w7 wr ∧ MatAt (G + 1) M wr ∧ MatAt (G + 1 + 1) M2 wr ∧ Hid (MBn n M (WS (PrecR (lstsA m L V)) k i 0)) ∧ Hid (MBn n M2 (WS (EdgeR E) k i 0))) (fun vi _ => n - (intOf vi).toNat)
              case atStart => exact ⟨0, M, M2, Nat.zero_le _, rfl, bel, m1, m2, HW1, HW2⟩
              case round =>
                clear m1 m2 bel HW1 HW2
                obtain ⟨i, M, M2, hii, rfl, bel, m1, m2, HW1, HW2⟩ := hrel
                by_cases hli : i < n
                · go_wp2_with fail
                  go_loopw [22] (fun vj wr => ∃ (j : Nat) (M M2 : Nat → Nat → Bool), j ≤ n ∧ vj = .int .i64 (j : Nat) ∧ Below (G + 1) w7 wr ∧ MatAt (G + 1) M wr ∧ MatAt (G + 1 + 1) M2 wr ∧ Hid (MBn n M (WS (PrecR (lstsA m L V)) k i j)) ∧ Hid (MBn n M2 (WS (EdgeR E) k i j))) (fun vj _ => n - (intOf vj).toNat)
                  case atStart => exact ⟨0, M, M2, Nat.zero_le _, rfl, bel, m1, m2, HW1, HW2⟩
                  case round =>
                    clear m1 m2 bel HW1 HW2
                    obtain ⟨j, M, M2, hj, rfl, bel, m1, m2, HW1, HW2⟩ := hrel
                    by_cases hlj : j < n
                    · have x1 := m1.cell (i := i) (j := k) (by omega) (by omega)
                      have x2 := m1.cell (i := k) (j := j) (by omega) (by omega)
                      have x3 := m1.cell (i := i) (j := j) (by omega) (by omega)
                      have x4 := World.rowIs.frozen m1 (i * 8 + j)
                      have x5 := World.rowIs.lt m1
                      have y5 := World.rowIs.lt m2
                      go_upto_region 41 with fail
                      go_cut [151] (fun vc wx => vc = .bool (M i k && M k j) ∧ wx = wr)
                      case first =>
                        cases h1 : M i k with
                        | true =>
                          rw [h1] at x1
                          go_wp2_with fail
                          all_goals go_meet
                          all_goals exact ⟨by rw [h1]; rfl, rfl⟩
                        | false =>
                          rw [h1] at x1
                          go_wp2_with fail
                          all_goals go_meet
                          all_goals exact ⟨by rw [h1]; rfl, rfl⟩
                      case rest =>
                        obtain ⟨rfl, rfl⟩ := hcut
                        go_upto_if 151 with fail
                        go_cut [22] (fun vj wx => vj = .int .i64 (j : Nat) ∧ ∃ M' : Nat → Nat → Bool, Below (G + 1) w7 wx ∧ MatAt (G + 1) M' wx ∧ MatAt (G + 1 + 1) M2 wx ∧ Hid (MBn n M' (WS (PrecR (lstsA m L V)) k i (j + 1))))
                        case first =>
                          cases hcc : (M i k && M k j) with
                          | true =>
                            have hc2 : M i k = true ∧ M k j = true := by simpa using hcc
                            have HST : Hid _ := WS.step_yes HW1.out hli hlj hlk hc2.1 hc2.2
                            go_wp2_with fail
                            go_meet
                            exact ⟨rfl, Mat.set M i j, bel.setCell (by simp) _, m1.set (by omega), m2.other (by simp) _, HST⟩
                          | false =>
                            have HST : Hid _ := WS.step_no HW1.out hli hlj hlk hcc
                            go_wp2_with fail
                            go_meet
                            exact ⟨rfl, M, bel, m1, m2, HST⟩
                        case rest =>
                          clear m1 m2 bel HW1 x1 x2 x3 x4 x5 y5
                          obtain ⟨rfl, M', bel, m1, m2, HW1⟩ := hcut
                          have x1 := m2.cell (i := i) (j := k) (by omega) (by omega)
                          have x2 := m2.cell (i := k) (j := j) (by omega) (by omega)
                          have x3 := m2.cell (i := i) (j := j) (by omega) (by omega)
                          have x4 := World.rowIs.frozen m2 (i * 8 + j)
                          have x5 := World.rowIs.lt m1
                          have y5 := World.rowIs.lt m2
                          go_upto_region 43 with fail
                          rename World => w9
                          go_cut [167] (fun vc wx => vc = .bool (M2 i k && M2 k j) ∧ wx = w9)
                          case first =>
                            cases h1 : M2 i k with
                            | true =>
                              rw [h1] at x1
                              go_wp2_with fail
                              all_goals go_meet
                              all_goals exact ⟨by rw [h1]; rfl, rfl⟩
                            | false =>
                              rw [h1] at x1
                              go_wp2_with fail
                              all_goals go_meet
                              all_goals exact ⟨by rw [h1]; rfl, rfl⟩
                          case rest =>
                            obtain ⟨rfl, rfl⟩ := hcut
                            cases hcc : (M2 i k && M2 k j) with
                            | true =>
                              have hc2 : M2 i k = true ∧ M2 k j = true := by simpa using hcc
                              have HST : Hid _ := WS.step_yes HW2.out hli hlj hlk hc2.1 hc2.2
                              go_wp2_with fail
                              go_roundw
                              case rel => exact ⟨j + 1, M', Mat.set M2 i j, by omega, by go_num, bel.setCell (by simp) _, m1.other (by simp) _, m2.set (by omega), HW1, HST⟩
                              case measure => simp [intOf]; omega
                            | false =>
                              have HST : Hid _ := WS.step_no HW2.out hli hlj hlk hcc
                              go_wp2_with fail
                              go_roundw
                              case rel => exact ⟨j + 1, M', M2, by omega, by go_num, bel, m1, m2, HW1, HST⟩
                              case measure => simp [intOf]; omega
                    · have hjn : j = n := by omega
                      subst hjn
                      go_wp2_with fail
                      go_roundw
                      case rel => exact ⟨i + 1, M, M2, by omega, by go_num, bel, m1, m2, fun a b ha hb => (HW1.out a b ha hb).trans (WS.nexti hb), fun a b ha hb => (HW2.out a b ha hb).trans (WS.nexti hb)⟩
                      case measure => simp [intOf]; omega
                · have hin : i = n := by omega
                  subst hin
                  go_wp2_with fail
                  go_roundw
                  case rel => exact ⟨k + 1, M, M2, by omega, by go_num, bel, m1, m2, fun a b ha hb => (HW1.out a b ha hb).trans (WS.nextk ha), fun a b ha hb => (HW2.out a b ha hb).trans (WS.nextk ha)⟩
                  case measure => simp [intOf]; omega
            · have hkn : k = n := by omega
              have hsame : ∀ a b, a < n → b < n → M a b = M2 a b := by
                intro a b ha hb
                have e1 := (HW1.out a b ha hb).trans WS.start.symm
                have e2 := (HW2.out a b ha hb).trans WS.start.symm
                have e3 : Via (PrecR (lstsA m L V)) k a b ↔ Via (EdgeR E) k a b := by
                  rw [← HEE.out, hkn]
                  refine reach_same ?_ a b
                  intro l hl x hx
                  simp [lstsA] at hl
                  obtain ⟨i, hi', rfl⟩ := hl
                  simp [lstA] at hx
                  obtain ⟨q, hq, rfl⟩ := hx
                  exact hi.val i q hi' hq
                have e4 := e1.trans (e3.trans e2.symm)
                cases hM : M a b <;> cases hM2 : M2 a b <;> simp [hM, hM2] at e4 <;> rfl
              have HSM : Hid _ := hsame
              clear hsame HW1 HW2
              go_wp2_with fail
              go_loopw [23] (fun vi wr => ∃ i : Nat, i ≤ n ∧ vi = .int .i64 (i : Nat) ∧ Below (G + 1) w7 wr ∧ MatAt (G + 1) M wr ∧ MatAt (G + 1 + 1) M2 wr) (fun vi _ => n - (intOf vi).toNat)
              case atStart => exact ⟨0, Nat.zero_le _, rfl, bel, m1, m2⟩
              case round =>
                clear m1 m2 bel
                obtain ⟨i, hii, rfl, bel, m1, m2⟩ := hrel
                by_cases hli : i < n
                · go_wp2_with fail
                  go_loopw [24] (fun vj wr => ∃ j : Nat, j ≤ n ∧ vj = .int .i64 (j : Nat) ∧ Below (G + 1) w7 wr ∧ MatAt (G + 1) M wr ∧ MatAt (G + 1 + 1) M2 wr) (fun vj _ => n - (intOf vj).toNat)
                  case atStart => exact ⟨0, Nat.zero_le _, rfl, bel, m1, m2⟩
                  case round =>
                    clear m1 m2 bel
                    obtain ⟨j, hj, rfl, bel, m1, m2⟩ := hrel
                    by_cases hlj : j < n
                    · have x1 := m1.cell (i := i) (j := j) (by omega) (by omega)
                      have x2 := m2.cell (i := i) (j := j) (by omega) (by omega)
                      rw [← HSM.out i j hli hlj] at x2
                      have x5 := World.rowIs.lt m1
                      have y5 := World.rowIs.lt m2
                      generalize M i j = bv at x1 x2
                      have z1 : (0 : Int) ≤ (i : Int) := by omega
                      have z2 : (i : Int) < 8 := by omega
                      have z3 : (0 : Int) ≤ (j : Int) := by omega
                      have z4 : (j : Int) < 8 := by omega
                      have t : (bv != bv) = false := by simp
                      go_wp2_with (go_quiet (fail))
                      go_roundw
                      case rel => exact ⟨j + 1, by omega, by go_num, below_drewN bel _, m1, m2⟩
                      case measure => simp [intOf]; omega
                    · go_wp2_with fail
                      go_roundw
                      case rel => exact ⟨i + 1, by omega, by go_num, bel, m1, m2⟩
                      case measure => simp [intOf]; omega
                · go_wp2_with fail
                  go_ret
                  exact ⟨rfl, b7.trans (bel.mono (by have := q0.out; omega))⟩

end Go.Proofs.Ybulkbik
