import Derived.Test.YbulkbikSame
import Derived.Deep.DeepCutAuto
import Derived.Deep.CutRange
/-! LawS0114AEdges (3). -/
namespace Go.Proofs.Ybulkbik
attribute [local go_sem ↓] Go.wp_at_zero Go.wp_at_succ
open Go.RowKit Go.Maps Go.Sort

/-- What lies there when the table is made. -/
structure EdgeAt (n m : Nat) (L : Nat → Nat) (V : Nat → Nat → Nat) (E : List (Nat × Nat)) (tb ob : Nat) (ib : Nat → Nat) (acb gx lb ab : Nat) (F : Nat → Int) (sb gb : Nat) (W : World) : Prop where
  r : ReachAt n m L V E tb ob ib acb gx lb ab F W
  src : W.rowIs sb 37 5 (srcCell acb (some ⟨gb, 0, none⟩))
  gk : W.rowIs gb 39 2 (fun i => if i = 0 then .slice (some ⟨tb, 0, none⟩) n n else .slice (some ⟨lb, 0, none⟩) n n)

theorem EdgeAt.of_block {n m : Nat} {L : Nat → Nat} {V : Nat → Nat → Nat} {E : List (Nat × Nat)} {tb ob : Nat} {ib : Nat → Nat} {acb gx lb ab : Nat} {F : Nat → Int} {sb gb : Nat} {W W' : World} (h : EdgeAt n m L V E tb ob ib acb gx lb ab F sb gb W) (hb : ∀ k, k < W.heap.size → W'.heap[k]? = W.heap[k]?) : EdgeAt n m L V E tb ob ib acb gx lb ab F sb gb W' :=
  ⟨h.r.of_block hb, h.src.of_block (hb _ h.src.lt), h.gk.of_block (hb _ h.gk.lt)⟩

def zero8 : Array Value := Array.replicate 8 (.bool false)

theorem rd_new (w : World) (c : Array Value) (hc : c = zero8) : (w.alloc (.cells c 41)).rowIs w.heap.size 41 8 (fun i => .bool ((fun _ => false) i)) := by
  subst hc
  have := World.rowIs_alloc w zero8 41 (fun _ => .bool false) (fun i hi => by
    have h8 : i < 8 := by simpa [zero8] using hi
    simp [zero8, h8])
  exact this

def Rd.set (R : Nat → Bool) (a : Nat) (b : Bool) (i : Nat) : Bool := if i = a then b else R i

theorem rd_set {W : World} {rb a : Nat} {R : Nat → Bool} {b : Bool} (h : W.rowIs rb 41 8 (fun i => .bool (R i))) : (W.setCell ⟨rb, a, none⟩ (.bool b)).rowIs rb 41 8 (fun i => .bool (Rd.set R a b i)) := by
  refine (World.rowIs.set h a (.bool b)).congr (fun k _ => ?_)
  unfold Rd.set
  by_cases e : k = a
  · rw [if_pos e, if_pos e]
  · rw [if_neg e, if_neg e]

/-- Where the scan of one list stands. -/
structure Scan (E : List (Nat × Nat)) (n : Nat) (rest : List Nat) (more : List (List Nat)) (M : Nat → Nat → Bool) (R : Nat → Bool) (dn : List (Nat × Nat)) (f : Fr) : Prop where
  all : E = dn ++ (listEdges f rest ++ edgesA more)
  tab : MB M (fun a b => (a, b) ∈ dn)
  ok : f.Ok n
  rds : RB R (· ∈ f.rs)

/-- The law's test of the last writer. -/
def wrHas (f : Fr) (j : Nat) : Bool := decide (0 ≤ f.wr) && (f.wr != (j : Int))

theorem wr_yes {f : Fr} {j : Nat} {M : Nat → Nat → Bool} {dn : List (Nat × Nat)} (h : MB M (fun a b => (a, b) ∈ dn)) (hw : wrHas f j = true) : MB (Mat.set M f.wr.toNat j) (fun a b => (a, b) ∈ dn ++ wrEdge f j) := by
  refine MB.set h (fun a b => ?_)
  simp [wrHas] at hw
  rw [List.mem_append]
  unfold wrEdge
  rw [if_pos ⟨hw.1, by simpa using hw.2⟩]
  simp

theorem wr_no {f : Fr} {j : Nat} {M : Nat → Nat → Bool} {dn : List (Nat × Nat)} (h : MB M (fun a b => (a, b) ∈ dn)) (hw : wrHas f j = false) : MB M (fun a b => (a, b) ∈ dn ++ wrEdge f j) := by
  refine MB.congr h (fun a b => ?_)
  have : ¬ (0 ≤ f.wr ∧ f.wr ≠ (j : Int)) := by
    rintro ⟨h1, h2⟩
    simp [wrHas, h1, h2] at hw
  unfold wrEdge
  rw [if_neg this]
  simp

/-- A read. -/
theorem Scan.read {E : List (Nat × Nat)} {n v j : Nat} {rest : List Nat} {more : List (List Nat)} {M M' : Nat → Nat → Bool} {R : Nat → Bool} {dn : List (Nat × Nat)} {f : Fr} (h : Scan E n (v :: rest) more M R dn f) (hv : v < 2 * n) (hj : j = v / 2) (hd : v % 2 = 0) (hM : MB M' (fun a b => (a, b) ∈ dn ++ wrEdge f j)) :
    Scan E n rest more M' (Rd.set R j true) (dn ++ wrEdge f j) (f.add v) := by
  have e1 : f.edges v = wrEdge f j := by
    rw [edges_split, ← hj]
    simp [hd, rdsA, rdEdges]
  have e2 : f.add v = ⟨f.wr, f.rs ++ [j]⟩ := by unfold Fr.add; rw [if_neg (by omega), hj]
  refine ⟨?_, hM, h.ok.add hv, ?_⟩
  · rw [h.all, listEdges, e1]; simp
  · intro i hi
    rw [e2]
    unfold Rd.set
    by_cases e : i = j
    · simp [e]
    · rw [if_neg e, h.rds i hi]; simp [e]

/-- A write, r readers looked at. -/
structure Wr (f : Fr) (j r : Nat) (dn : List (Nat × Nat)) (M : Nat → Nat → Bool) (R : Nat → Bool) : Prop where
  tab : MB M (fun a b => (a, b) ∈ dn ∨ (b = j ∧ a ≠ j ∧ a < r ∧ a ∈ f.rs))
  rds : RB R (fun i => i ∈ f.rs ∧ r ≤ i)

theorem Wr.step_yes {f : Fr} {j r : Nat} {dn : List (Nat × Nat)} {M : Nat → Nat → Bool} {R : Nat → Bool} (h : Wr f j r dn M R) (hr : r < 8) (hc : (R r && ((r : Int) != (j : Int))) = true) : Wr f j (r + 1) dn (Mat.set M r j) (Rd.set R r false) := by
  simp at hc
  have hm := (h.rds r hr).1 hc.1
  have hne : r ≠ j := by omega
  refine ⟨MB.set h.tab (fun a b => ?_), fun i hi => ?_⟩
  · constructor
    · rintro (h1 | ⟨rfl, h2, h3, h4⟩)
      · exact .inl (.inl h1)
      · by_cases e : a = r
        · exact .inr ⟨e, rfl⟩
        · exact .inl (.inr ⟨rfl, h2, by omega, h4⟩)
    · rintro ((h1 | ⟨rfl, h2, h3, h4⟩) | ⟨rfl, rfl⟩)
      · exact .inl h1
      · exact .inr ⟨rfl, h2, by omega, h4⟩
      · exact .inr ⟨rfl, hne, by omega, hm.1⟩
  · unfold Rd.set
    by_cases e : i = r
    · rw [if_pos e, e]; simp
    · rw [if_neg e, h.rds i hi]
      constructor
      · rintro ⟨h1, h2⟩; exact ⟨h1, by omega⟩
      · rintro ⟨h1, h2⟩; exact ⟨h1, by omega⟩

theorem Wr.step_no {f : Fr} {j r : Nat} {dn : List (Nat × Nat)} {M : Nat → Nat → Bool} {R : Nat → Bool} (h : Wr f j r dn M R) (hr : r < 8) (hc : (R r && ((r : Int) != (j : Int))) = false) : Wr f j (r + 1) dn M (Rd.set R r false) := by
  refine ⟨MB.congr h.tab (fun a b => ?_), fun i hi => ?_⟩
  · constructor
    · rintro (h1 | ⟨rfl, h2, h3, h4⟩)
      · exact .inl h1
      · exact .inr ⟨rfl, h2, by omega, h4⟩
    · rintro (h1 | ⟨rfl, h2, h3, h4⟩)
      · exact .inl h1
      · by_cases e : a = r
        · subst e
          have hR : R a = true := (h.rds a hr).2 ⟨h4, Nat.le_refl _⟩
          rw [hR] at hc
          simp at hc
          omega
        · exact .inr ⟨rfl, h2, by omega, h4⟩
  · unfold Rd.set
    by_cases e : i = r
    · rw [if_pos e, e]; simp
    · rw [if_neg e, h.rds i hi]
      constructor
      · rintro ⟨h1, h2⟩; exact ⟨h1, by omega⟩
      · rintro ⟨h1, h2⟩; exact ⟨h1, by omega⟩

/-- A write, done. -/
theorem Scan.write {E : List (Nat × Nat)} {n v j : Nat} {rest : List Nat} {more : List (List Nat)} {M M' : Nat → Nat → Bool} {R R' : Nat → Bool} {dn : List (Nat × Nat)} {f : Fr} (h : Scan E n (v :: rest) more M R dn f) (hn : n ≤ 8) (hv : v < 2 * n) (hj : j = v / 2) (hd : v % 2 = 1) (hW : Wr f j 8 (dn ++ wrEdge f j) M' R') :
    Scan E n rest more M' R' (dn ++ wrEdge f j ++ rdEdges f.rs j) (f.add v) ∧ (f.add v).wr = (j : Int) := by
  have e1 : f.edges v = wrEdge f j ++ rdEdges f.rs j := by
    rw [edges_split, ← hj]
    simp [hd, rdsA]
  have e2 : f.add v = ⟨(j : Int), []⟩ := by unfold Fr.add; rw [if_pos hd, hj]
  refine ⟨⟨?_, MB.congr hW.tab (fun a b => ?_), h.ok.add hv, ?_⟩, by rw [e2]⟩
  · rw [h.all, listEdges, e1]; simp
  · have em : (a, b) ∈ dn ++ wrEdge f j ++ rdEdges f.rs j ↔ (a, b) ∈ dn ++ wrEdge f j ∨ (a ∈ f.rs ∧ a ≠ j ∧ b = j) := by rw [List.mem_append (t := rdEdges f.rs j), mem_rdEdges]
    rw [em]
    constructor
    · rintro (h1 | ⟨rfl, h2, h3, h4⟩)
      · exact .inl h1
      · exact .inr ⟨h4, h2, rfl⟩
    · rintro (h1 | ⟨h4, h2, rfl⟩)
      · exact .inl h1
      · exact .inr ⟨rfl, h2, by have := h.ok.2.2 a h4; omega, h4⟩
  · intro i hi
    rw [hW.rds i hi, e2]
    simp
    intro _
    omega

set_option maxRecDepth 100000 in
set_option maxHeartbeats 4000000 in
theorem edges3 (a0 : Option Addr) (m cap : Nat) (A : Nat → Option Addr) (L C : Nat → Nat) (Z : Nat → Nat → Nat) (w : World) (z : Nat) (hz : z < 256) (h : RawArg w a0 m A L C Z) (hb : bigA m L = false) :
    Calls Yba.prog 3 #[.int .u8 (z : Nat), .slice a0 m cap] w fun e w' => e = .returned (.bool true) ∧ Below w.heap.size w w' := by
  have hm : m ≤ 256 ∧ sumTo L m ≤ 1024 := by
    simp only [bigA, Bool.or_eq_false_iff, decide_eq_false_iff_not] at hb
    omega
  have c9 := toobig9 a0 m cap A L C Z w h
  rw [hb] at c9
  have c10 := build10 a0 m cap A L C Z w z hz h hm.1 hm.2
  obtain ⟨n, hn⟩ : ∃ n, n = z % 8 + 1 := ⟨_, rfl⟩
  rw [← hn] at c10
  have hi : InA n m L (fun x k => accV n (Z x k)) := ⟨by omega, by omega, hm.1, hm.2, fun x k _ _ => accV_lt (by omega)⟩
  clear hn hb
  generalize (fun x k => accV n (Z x k)) = V at c10 hi
  go_enter Yba.func3, Yba.ntmps3
  go_wp2_with (first
    | (go_at_call 9; refine c9.mono ?_; rintro e w1 ⟨rfl, rfl⟩)
    | (go_at_call 10; refine c10.mono ?_; rintro e w2 ⟨rfl, b2, hl2⟩))
  have bb2 := ((Below.refl w2.heap.size w2).alloc (Nat.le_refl _) (.cells #[.slice (some ⟨w1.heap.size + 1, 0, none⟩) n n, .slice (some ⟨w1.heap.size + 1 + 1, 0, none⟩) m m] 27)).alloc (by simp) (.cells #[.pointer none, .pointer (some ⟨w2.heap.size, 0, none⟩), .pointer none, .slice none 0 0, .pointer none] 37)
  have hacc : ((w2.alloc (.cells #[.slice (some ⟨w1.heap.size + 1, 0, none⟩) n n, .slice (some ⟨w1.heap.size + 1 + 1, 0, none⟩) m m] 27)).alloc (.cells #[.pointer none, .pointer (some ⟨w2.heap.size, 0, none⟩), .pointer none, .slice none 0 0, .pointer none] 37)).rowIs w2.heap.size 27 2 (accCell (w1.heap.size + 1) (w1.heap.size + 1 + 1) n m) :=
    ((row2_new w2 _ _ 27).alloc _)
  have hsrc : ((w2.alloc (.cells #[.slice (some ⟨w1.heap.size + 1, 0, none⟩) n n, .slice (some ⟨w1.heap.size + 1 + 1, 0, none⟩) m m] 27)).alloc (.cells #[.pointer none, .pointer (some ⟨w2.heap.size, 0, none⟩), .pointer none, .slice none 0 0, .pointer none] 37)).rowIs (w2.heap.size + 1) 37 5 (srcCell w2.heap.size none) := by
    have := World.rowIs_alloc (w2.alloc (.cells #[.slice (some ⟨w1.heap.size + 1, 0, none⟩) n n, .slice (some ⟨w1.heap.size + 1 + 1, 0, none⟩) m m] 27)) #[.pointer none, .pointer (some ⟨w2.heap.size, 0, none⟩), .pointer none, .slice none 0 0, .pointer none] 37 (srcCell w2.heap.size none) (fun i hi => by
      match i, hi with
      | 0, _ => rfl
      | 1, _ => rfl
      | 2, _ => rfl
      | 3, _ => rfl
      | 4, _ => rfl)
    simpa using this
  have hsz2 : ((w2.alloc (.cells #[.slice (some ⟨w1.heap.size + 1, 0, none⟩) n n, .slice (some ⟨w1.heap.size + 1 + 1, 0, none⟩) m m] 27)).alloc (.cells #[.pointer none, .pointer (some ⟨w2.heap.size, 0, none⟩), .pointer none, .slice none 0 0, .pointer none] 37)).heap.size = w2.heap.size + 1 + 1 := by simp
  have c11 := paths11 (w2.heap.size + 1) w2.heap.size (w1.heap.size + 1) (w1.heap.size + 1 + 1) n m _ L V _ (hl2.of_below bb2) hi hsrc hacc
  generalize (w2.alloc (.cells #[.slice (some ⟨w1.heap.size + 1, 0, none⟩) n n, .slice (some ⟨w1.heap.size + 1 + 1, 0, none⟩) m m] 27)).alloc (.cells #[.pointer none, .pointer (some ⟨w2.heap.size, 0, none⟩), .pointer none, .slice none 0 0, .pointer none] 37) = w3 at *
  refine c11.mono ?_
  rintro e w4 ⟨gb, lb, ab, F, rfl, hg4, hs4, hgb, hlb, hab, hgr⟩
  clear c9 c10 c11
  have hlen : ((n : Int) == (n : Int)) = true := by simp
  go_upto_region 6 with fail
  have sc5 : (w4.alloc (.cells #[.slice (some ⟨w1.heap.size + 1, 0, none⟩) n n, .slice (some ⟨lb, 0, none⟩) n n] 39)).cell? ⟨w2.heap.size + 1, 2, none⟩ = some (.pointer (some ⟨gb, 0, none⟩)) := (hs4.alloc _).cell (i := 2) (by omega)
  have sl5 := (hs4.alloc (.cells #[.slice (some ⟨w1.heap.size + 1, 0, none⟩) n n, .slice (some ⟨lb, 0, none⟩) n n] 39)).lt
  have r5 : EdgeAt n m L V (edgesA (lstsA m L V)) (w1.heap.size + 1) (w1.heap.size + 1 + 1) (fun x => w1.heap.size + 1 + 1 + 1 + x) w2.heap.size w4.heap.size lb ab F (w2.heap.size + 1) gb (w4.alloc (.cells #[.slice (some ⟨w1.heap.size + 1, 0, none⟩) n n, .slice (some ⟨lb, 0, none⟩) n n] 39)) := by
    have hl3 := hl2.of_below bb2
    have hl4 : LaidA w4 n m _ _ _ L V := hl3.of_grown hg4 (by have := hl2.txs.lt; omega) (by have := hl2.outer.lt; omega) (fun x hx => by have := (hl2.inner x hx).lt; omega)
    exact ⟨⟨(rowIs_grown hacc hg4 (by simp)).alloc _, ⟨hl4.txs.alloc _, hl4.outer.alloc _, fun x hx => (hl4.inner x hx).alloc _⟩, row2_new w4 _ _ 39, hgr.succ.of_block (Below.heap_alloc _ _ _ hgr.succ.top.lt) (Below.heap_alloc _ _ _ hgr.succ.row.lt)⟩, hs4.alloc _, hgr.row.alloc _⟩
  have b5 : Below w1.heap.size w1 (w4.alloc (.cells #[.slice (some ⟨w1.heap.size + 1, 0, none⟩) n n, .slice (some ⟨lb, 0, none⟩) n n] 39)) := by
    have hb3 := b2.trans (bb2.mono b2.size)
    have := b2.size
    exact (hb3.grown hg4 hb3.size (fun k e => by cases e; omega)).alloc (by have := hb3.size; have := hg4.size; omega) _
  have hs5 : (w4.alloc (.cells #[.slice (some ⟨w1.heap.size + 1, 0, none⟩) n n, .slice (some ⟨lb, 0, none⟩) n n] 39)).heap.size = w4.heap.size + 1 := by simp
  generalize w4.alloc (.cells #[.slice (some ⟨w1.heap.size + 1, 0, none⟩) n n, .slice (some ⟨lb, 0, none⟩) n n] 39) = w5 at *
  have hlsb := hs4.lt
  have hlgb := hgr.row.lt
  go_upto_region 9 with fail
  have h64 : (#[Value.bool false, Value.bool false, Value.bool false, Value.bool false, Value.bool false, Value.bool false, Value.bool false, Value.bool false, Value.bool false, Value.bool false, Value.bool false, Value.bool false, Value.bool false, Value.bool false, Value.bool false, Value.bool false, Value.bool false, Value.bool false, Value.bool false, Value.bool false, Value.bool false, Value.bool false, Value.bool false, Value.bool false, Value.bool false, Value.bool false, Value.bool false, Value.bool false, Value.bool false, Value.bool false, Value.bool false, Value.bool false, Value.bool false, Value.bool false, Value.bool false, Value.bool false, Value.bool false, Value.bool false, Value.bool false, Value.bool false, Value.bool false, Value.bool false, Value.bool false, Value.bool false, Value.bool false, Value.bool false, Value.bool false, Value.bool false, Value.bool false, Value.bool false, Value.bool false, Value.bool false, Value.bool false, Value.bool false, Value.bool false, Value.bool false, Value.bool false, Value.bool false, Value.bool false, Value.bool false, Value.bool false, Value.bool false, Value.bool false, Value.bool false] : Array Value) = zero64 := rfl
  rw [h64]
  clear h64 sc5 sl5
  have r7 := r5.of_block (W' := w5.alloc (.cells zero64 42)) (fun k hk => Below.heap_alloc _ _ _ hk)
  have b7 : Below w1.heap.size w1 (w5.alloc (.cells zero64 42)) := b5.alloc b5.size _
  have m1 : MatAt (w4.heap.size + 1) (fun _ _ => false) (w5.alloc (.cells zero64 42)) := by
    have := mat_new w5 _ rfl
    rw [hs5] at this
    exact this
  have hs7 : (w5.alloc (.cells zero64 42)).heap.size = w4.heap.size + 1 + 1 := by simp [hs5]
  generalize w5.alloc (.cells zero64 42) = w7 at *
  have lb1 := hgr.succ.top.lt
  have lb2 := hgr.succ.row.lt
  have hz4 := hg4.size
  have hz2 := b2.size
  have q1 : w2.heap.size < w4.heap.size := by omega
  have q2 : w1.heap.size + 1 + 1 < w4.heap.size := by have := hl2.outer.lt; omega
  have q0 : Hid (w1.heap.size ≤ w4.heap.size) := by show _ ≤ _; omega
  have q3 : ∀ x, x < m → (fun x => w1.heap.size + 1 + 1 + 1 + x) x < w4.heap.size := fun x hx => by have := (hl2.inner x hx).lt; simp only []; omega
  have q4 : w1.heap.size + 1 < w4.heap.size := by omega
  clear r5 b5 hs5 hgr hs4 hg4 hacc hsrc bb2 b2 hl2 hsz2
  generalize (fun x => w1.heap.size + 1 + 1 + 1 + x) = ib at r7 q3
  generalize w1.heap.size + 1 + 1 = ob at r7 q2 ⊢
  generalize w1.heap.size + 1 = tb at r7 q4 ⊢
  generalize w2.heap.size + 1 = sb at r7 hlsb ⊢
  generalize w2.heap.size = acb at r7 q1 ⊢
  generalize hG : w4.heap.size = G at *
  generalize hEE : edgesA (lstsA m L V) = E at r7
  have HEE : Hid (edgesA (lstsA m L V) = E) := hEE
  have HELT : Hid (∀ e ∈ E, e.1 < n ∧ e.2 < n) := by rw [← hEE]; exact hi.lt
  have hElen : E.length ≤ 4096 := by rw [← hEE]; exact hi.len
  clear hEE
  have hn8 := hi.n8
  have a1 := r7.r.acc.cell (i := 1) (by omega)
  rw [show accCell tb ob n m 1 = .slice (some ⟨ob, 0, none⟩) m m from rfl] at a1
  go_wp2_with fail
  go_loopw [43] (fun vx wr => ∃ (x : Nat) (M : Nat → Nat → Bool) (dn : List (Nat × Nat)), x ≤ m ∧ vx = .int .i64 (x : Nat) ∧ Below (G + 1) w7 wr ∧ MatAt (G + 1) M wr ∧ Hid (E = dn ++ edgesA ((lstsA m L V).drop x) ∧ MB M (fun a b => (a, b) ∈ dn))) (fun vx _ => m - (intOf vx).toNat)
  case atStart => exact ⟨0, fun _ _ => false, [], Nat.zero_le _, rfl, Below.refl _ _, m1, HEE.out.symm, fun a b _ _ => by simp⟩
  case round =>
    clear m1
    obtain ⟨x, M, dn, hx, rfl, bel, m1, HD⟩ := hrel
    by_cases hlx : x < m
    · have oc := (bel.cell (p := ⟨ob, x, none⟩) (by simp; omega)).trans (r7.r.laid.outer.cell (i := x) hlx)
      have hLx : L x ≤ 1024 := Nat.le_trans (sumTo_get L hlx) hi.sum
      have il := q3 x hlx
      have hol := Nat.lt_of_lt_of_le r7.r.laid.outer.lt bel.size
      go_upto_region 14 with fail
      have h8 : (#[Value.bool false, Value.bool false, Value.bool false, Value.bool false, Value.bool false, Value.bool false, Value.bool false, Value.bool false] : Array Value) = zero8 := rfl
      rw [h8]
      clear h8
      have rd0 := rd_new wr _ rfl
      have bel0 : Below (G + 1) w7 (wr.alloc (.cells zero8 41)) := bel.alloc (by have := bel.size; omega) _
      have m10 : MatAt (G + 1) M (wr.alloc (.cells zero8 41)) := World.rowIs.alloc m1 _
      have hrb : G + 1 < wr.heap.size := World.rowIs.lt m1
      have HSc : Hid (Scan E n ((lstA L V x).drop 0) ((lstsA m L V).drop (x + 1)) M (fun _ => false) dn Fr.zero) := ⟨by rw [HD.out.1, lstsA_drop hlx, edgesA_cons]; rfl, HD.out.2, Fr.ok_zero n, fun i _ => by simp [Fr.zero]⟩
      generalize wr.heap.size = rb at rd0 hrb ⊢
      generalize wr.alloc (.cells zero8 41) = w8 at *
      clear bel m1 HD oc hol
      go_wp2_with fail
      go_loopw [12, 49] (fun vl vk wr => ∃ (k : Nat) (M : Nat → Nat → Bool) (R : Nat → Bool) (dn : List (Nat × Nat)) (f : Fr), k ≤ L x ∧ vk = .int .i64 (k : Nat) ∧ vl = .int .i32 f.wr ∧ Below (G + 1) w7 wr ∧ MatAt (G + 1) M wr ∧ wr.rowIs rb 41 8 (fun i => .bool (R i)) ∧ Hid (Scan E n ((lstA L V x).drop k) ((lstsA m L V).drop (x + 1)) M R dn f)) (fun _ vk _ => L x - (intOf vk).toNat)
      case atStart => exact ⟨0, M, fun _ => false, dn, Fr.zero, Nat.zero_le _, rfl, rfl, bel0, m10, rd0, HSc⟩
      case round =>
        clear rd0 bel0 m10 HSc M dn
        obtain ⟨k, M, R, dn, f, hk, rfl, rfl, bel, m1, rd, HSc⟩ := hrel
        by_cases hlk : k < L x
        · have ck := (bel.cell (p := ⟨ib x, k, none⟩) (by simp; omega)).trans ((r7.r.laid.inner x hlx).cell (i := k) hlk)
          have hv := hi.val x k hlx hlk
          have hSS := HSc.out
          rw [lstA_drop hlk] at hSS
          have HOK : Hid (f.Ok n) := hSS.ok
          clear HSc
          generalize V x k = v at ck hv hSS
          obtain ⟨j, hj⟩ : ∃ j, j = v / 2 := ⟨_, rfl⟩
          obtain ⟨d, hd⟩ : ∃ d, d = v % 2 := ⟨_, rfl⟩
          have ej : (v : Int) / 2 = (j : Int) := by rw [hj]; rfl
          have ed := and1i v (by omega)
          rw [← hd] at ed
          have lj : j < 8 := by omega
          have ld : d < 2 := by omega
          have HJ : Hid (v < 2 * n ∧ j = v / 2 ∧ d = v % 2) := ⟨hv, hj, hd⟩
          have HS : Hid _ := hSS
          have hwr1 := HOK.out.1
          have hwr2 := HOK.out.2.1
          obtain ⟨lw, hlw⟩ : ∃ lw, lw = f.wr := ⟨_, rfl⟩
          rw [← hlw] at hwr1 hwr2 ⊢
          have HLW : Hid (lw = f.wr) := hlw
          have HWH : Hid (wrHas f j = (decide (0 ≤ lw) && (lw != (j : Int)))) := by show _ = _; rw [hlw]; rfl
          clear hj hd hSS hlw
          have ml := World.rowIs.lt m1
          have rl := rd.lt
          go_upto_region 18 with fail
          rename World => w9
          go_cut [64] (fun vc wx => vc = .bool (wrHas f j) ∧ wx = w9)
          case first =>
            by_cases h0 : 0 ≤ lw
            · have t0 : decide ((0 : Int) ≤ lw) = true := decide_eq_true h0
              have HV : Hid (wrHas f j = (lw != (j : Int))) := by show _ = _; rw [HWH.out, t0]; rfl
              go_wp2_with fail
              all_goals go_meet
              all_goals exact ⟨by rw [HV.out], rfl⟩
            · have t0 : decide ((0 : Int) ≤ lw) = false := decide_eq_false h0
              have HV : Hid (wrHas f j = false) := by show _ = _; rw [HWH.out, t0]; rfl
              go_wp2_with fail
              all_goals go_meet
              all_goals exact ⟨by rw [HV.out], rfl⟩
          case rest =>
            obtain ⟨rfl, rfl⟩ := hcut
            go_upto_if 64 with fail
            go_cut [49] (fun vk wx => vk = .int .i64 (k : Nat) ∧ ∃ M' : Nat → Nat → Bool, Below (G + 1) w7 wx ∧ MatAt (G + 1) M' wx ∧ wx.rowIs rb 41 8 (fun i => .bool (R i)) ∧ Hid (MB M' (fun a b => (a, b) ∈ dn ++ wrEdge f j)))
            case first =>
              cases hcc : wrHas f j with
              | true =>
                have HST : Hid _ := wr_yes HS.out.tab hcc
                have h0 : 0 ≤ lw := by
                  have := HWH.out
                  rw [hcc] at this
                  have := this.symm
                  simp at this
                  exact this.1
                rw [← HLW.out] at HST
                obtain ⟨a, ha⟩ : ∃ a : Nat, lw = (a : Int) := ⟨lw.toNat, by omega⟩
                subst ha
                rw [Int.toNat_natCast] at HST
                have la : a < 8 := by omega
                have mc := m1.cell (i := a) (j := j) la lj
                have mf := World.rowIs.frozen m1 (a * 8 + j)
                go_wp2_with fail
                go_meet
                exact ⟨rfl, Mat.set M a j, bel.setCell (by simp) _, m1.set lj, World.rowIs.setOther rd (by simp; omega) _, HST⟩
              | false =>
                have HST : Hid _ := wr_no HS.out.tab hcc
                go_wp2_with fail
                go_meet
                exact ⟨rfl, M, bel, m1, rd, HST⟩
            case rest =>
              clear m1 bel rd ml rl ck
              obtain ⟨rfl, M', bel, m1, rd, HM⟩ := hcut
              have ml := World.rowIs.lt m1
              have rl := rd.lt
              by_cases hd1 : d = 1
              · have HFIN : Hid (∀ M2 R2, Wr f j 8 (dn ++ wrEdge f j) M2 R2 → Scan E n ((lstA L V x).drop (k + 1)) ((lstsA m L V).drop (x + 1)) M2 R2 (dn ++ wrEdge f j ++ rdEdges f.rs j) (f.add v) ∧ (f.add v).wr = (j : Int)) := fun M2 R2 hW => HS.out.write hn8 HJ.out.1 HJ.out.2.1 (by rw [← HJ.out.2.2]; exact hd1) hW
                have HW0 : Hid (Wr f j 0 (dn ++ wrEdge f j) M' R) := ⟨MB.congr HM.out (fun a b => by simp), fun i hi => by rw [HS.out.rds i hi]; simp⟩
                subst hd1
                clear HM HS HWH HLW
                go_wp2_with fail
                go_loopw [18] (fun vr wr => ∃ (r : Nat) (M : Nat → Nat → Bool) (R : Nat → Bool), r ≤ 8 ∧ vr = .int .i64 (r : Nat) ∧ Below (G + 1) w7 wr ∧ MatAt (G + 1) M wr ∧ wr.rowIs rb 41 8 (fun i => .bool (R i)) ∧ Hid (Wr f j r (dn ++ wrEdge f j) M R)) (fun vr _ => 8 - (intOf vr).toNat)
                case atStart => exact ⟨0, M', R, by omega, rfl, bel, m1, rd, HW0⟩
                case round =>
                  clear bel m1 rd HW0 ml rl
                  obtain ⟨r, M2, R2, hr, rfl, bel, m1, rd, HW⟩ := hrel
                  by_cases hlr : r < 8
                  · have c1 := rd.cell (i := r) hlr
                    have f1 := rd.frozen r
                    have ml := World.rowIs.lt m1
                    have rl := rd.lt
                    have mc := m1.cell (i := r) (j := j) hlr lj
                    have mf := World.rowIs.frozen m1 (r * 8 + j)
                    go_upto_region 24 with fail
                    rename World => w9
                    go_cut [82] (fun vc wx => vc = .bool (R2 r && ((r : Int) != (j : Int))) ∧ wx = w9)
                    case first =>
                      cases h1 : R2 r with
                      | true =>
                        rw [h1] at c1
                        go_wp2_with fail
                        all_goals go_meet
                        all_goals exact ⟨by rw [h1]; rfl, rfl⟩
                      | false =>
                        rw [h1] at c1
                        go_wp2_with fail
                        all_goals go_meet
                        all_goals exact ⟨by rw [h1]; rfl, rfl⟩
                    case rest =>
                      obtain ⟨rfl, rfl⟩ := hcut
                      cases hcc : (R2 r && ((r : Int) != (j : Int))) with
                      | true =>
                        have HST : Hid _ := HW.out.step_yes hlr hcc
                        go_wp2_with fail
                        go_roundw
                        case rel => exact ⟨r + 1, Mat.set M2 r j, Rd.set R2 r false, by omega, by go_num, (bel.setCell (by simp) _).setCell (by simp; omega) _, (m1.set lj).other (by simp; omega) _, rd_set (World.rowIs.setOther rd (by simp; omega) _), HST⟩
                        case measure => simp [intOf]; omega
                      | false =>
                        have HST : Hid _ := HW.out.step_no hlr hcc
                        go_wp2_with fail
                        go_roundw
                        case rel => exact ⟨r + 1, M2, Rd.set R2 r false, by omega, by go_num, bel.setCell (by simp; omega) _, m1.other (by simp; omega) _, rd_set rd, HST⟩
                        case measure => simp [intOf]; omega
                  · have hr8 : r = 8 := by omega
                    subst hr8
                    have HN : Hid _ := HFIN.out M2 R2 HW.out
                    go_wp2_with fail
                    go_roundw
                    case rel => exact ⟨k + 1, M2, R2, _, f.add v, by omega, by go_num, by rw [HN.out.2], bel, m1, rd, HN.out.1⟩
                    case measure => simp [intOf]; omega
              · have hd0 : d = 0 := by omega
                have HN : Hid _ := HS.out.read HJ.out.1 HJ.out.2.1 (by rw [← HJ.out.2.2]; exact hd0) HM.out
                have HA : Hid ((f.add v).wr = lw) := by
                  show _ = _
                  rw [HLW.out]
                  unfold Fr.add
                  rw [if_neg (by have := HJ.out.2.2; omega)]
                subst hd0
                clear hd1 HM HS HWH
                have c1 := rd.cell (i := j) lj
                have f1 := rd.frozen j
                go_wp2_with fail
                go_roundw
                case rel => exact ⟨k + 1, M', Rd.set R j true, _, f.add v, by omega, by go_num, by rw [HA.out], bel.setCell (by simp; omega) _, m1.other (by simp; omega) _, rd_set rd, HN⟩
                case measure => simp [intOf]; omega
        · have hkx : k = L x := by omega
          have HN : Hid (E = dn ++ edgesA ((lstsA m L V).drop (x + 1)) ∧ MB M (fun a b => (a, b) ∈ dn)) := by
            refine ⟨?_, HSc.out.tab⟩
            have := HSc.out.all
            rw [List.drop_eq_nil_of_le (by simp [lstA]; omega)] at this
            exact this
          clear HSc
          go_wp2_with fail
          go_roundw
          case rel => exact ⟨x + 1, M, dn, by omega, by go_num, bel, m1, HN⟩
          case measure => simp [intOf]; omega
    · have hxm : x = m := by omega
      have HM : Hid (MB M (fun a b => (a, b) ∈ E)) := by
        have h1 := HD.out.1
        rw [List.drop_eq_nil_of_le (by simp [lstsA]; omega)] at h1
        have h2 : E = dn := by simpa [edgesA] using h1
        show MB M _
        rw [h2]
        exact HD.out.2
      clear HD hxm
      have gc0 := (bel.cell (p := ⟨G, 0, none⟩) (by simp)).trans (r7.r.gr.cell (i := 0) (by omega))
      have gc1 := (bel.cell (p := ⟨G, 1, none⟩) (by simp)).trans (r7.r.gr.cell (i := 1) (by omega))
      rw [if_pos rfl] at gc0
      rw [if_neg (by omega)] at gc1
      have gl := Nat.lt_of_lt_of_le r7.r.gr.lt bel.size
      have hnn : ((n : Int) != (n : Int)) = false := by simp
      go_wp2_with fail
      go_loopw [19] (fun vi wr => ∃ i : Nat, i ≤ n ∧ vi = .int .i64 (i : Nat) ∧ Below (G + 1) w7 wr ∧ MatAt (G + 1) M wr) (fun vi _ => n - (intOf vi).toNat)
      case atStart => exact ⟨0, Nat.zero_le _, rfl, bel, m1⟩
      case round =>
        clear m1 bel gc0 gc1 gl
        obtain ⟨i, hii, rfl, bel, m1⟩ := hrel
        by_cases hli : i < n
        · have gc0 := (bel.cell (p := ⟨G, 0, none⟩) (by simp)).trans (r7.r.gr.cell (i := 0) (by omega))
          rw [if_pos rfl] at gc0
          have ac0 := (bel.cell (p := ⟨acb, 0, none⟩) (by simp; omega)).trans (r7.r.acc.cell (i := 0) (by omega))
          rw [show accCell tb ob n m 0 = .slice (some ⟨tb, 0, none⟩) n n from rfl] at ac0
          have tc := (bel.cell (p := ⟨tb, i, none⟩) (by simp; omega)).trans (r7.r.laid.txs.cell (i := i) hli)
          have gl := Nat.lt_of_lt_of_le r7.r.gr.lt bel.size
          have al := Nat.lt_of_lt_of_le r7.r.acc.lt bel.size
          have tl := Nat.lt_of_lt_of_le r7.r.laid.txs.lt bel.size
          generalize ((2 * i + 1 : Nat) : Int) = tv at tc
          have t : (tv != tv) = false := by simp
          have z1 : (0 : Int) ≤ (i : Int) := by omega
          have z2 : (i : Int) < (n : Int) := by omega
          go_wp2_with (go_quiet (fail))
          go_roundw
          case rel => exact ⟨i + 1, by omega, by go_num, below_drewN bel _, m1⟩
          case measure => simp [intOf]; omega
        · go_wp2_with fail
          go_loopw [20] (fun vv wr => ∃ v : Nat, v ≤ n ∧ vv = .int .i64 (v : Nat) ∧ Below (G + 1) w7 wr ∧ MatAt (G + 1) M wr) (fun vv _ => n - (intOf vv).toNat)
          case atStart => exact ⟨0, Nat.zero_le _, rfl, bel, m1⟩
          case round =>
            clear m1 bel
            obtain ⟨v, hv, rfl, bel, m1⟩ := hrel
            by_cases hlv : v < n
            · obtain ⟨i21, hi21, hz210, hz211, hz212⟩ := info_parts info21
              go_wp2_with fail
              go_loopw [21, 22] (fun vs vu wr => ∃ (u : Nat) (a : Option Addr) (cp : Nat), u ≤ n ∧ vu = .int .i64 (u : Nat) ∧ vs = .slice a (wantK M v u).length cp ∧ wr.ownsRow (G + 1 + 1) 21 1 (.slice a (wantK M v u).length cp) (wantK M v u).length ((wantK M v u).map (Value.int .i32)) ∧ Below (G + 1) w7 wr ∧ MatAt (G + 1) M wr) (fun _ vu _ => n - (intOf vu).toNat)
              case atStart => exact ⟨0, none, 0, Nat.zero_le _, rfl, rfl, World.ownsRow_nil _ _ _ _, bel, m1⟩
              case round =>
                clear m1 bel
                obtain ⟨u, a, cp, hu, rfl, rfl, hown, bel, m1⟩ := hrel
                have hws := bel.size
                by_cases hlu : u < n
                · have mc := m1.cell (i := v) (j := u) (by omega) (by omega)
                  have ml := World.rowIs.lt m1
                  have hwl := wantK_len M v u
                  cases hm : M v u with
                  | true =>
                    rw [hm] at mc
                    have HM1 : Hid _ := wantK_yes hm
                    clear hm
                    go_wp2_with (first
                      | (at_builtin; (refine wpList_append_own _ rfl _ _ 43 rfl (G + 1 + 1) 21 i21 (.int .i32 0) 1 4 Yba.underlying43 hi21 hz210 hz211 hz212 rfl (by decide) _ _ _ rfl (hown.alloc _) ⟨wr.heap.size, 0, none⟩ 1 1 [.int .i32 (u : Int)] rfl rfl (cell_one_new _ _ _) (by simp [Value.oneCell']) (by unfold maxLen; omega) (by omega) (by simp; omega) ?_; intro v' w3 hown' hgrow hnil; obtain ⟨a3, cp3, hv3⟩ := own_shape hown'; subst hv3; have HO : Hid _ := hown'; have HG : Hid _ := hgrow; clear hown' hgrow hnil)))
                    go_roundw
                    case rel =>
                      have e := HM1.out
                      refine ⟨u + 1, a3, cp3, by omega, by go_num, by rw [e]; simp, ?_, (bel.alloc (by omega) _).grown HG.out (by simp; omega) (fun j hj => by have := (hown.lt j hj).1; omega), rowIs_grown (World.rowIs.alloc m1 _) HG.out (own_lt_ne hown (by omega))⟩
                      rw [e, List.map_append, List.length_append]
                      exact HO.out
                    case measure => simp [intOf]; omega
                  | false =>
                    rw [hm] at mc
                    have HM1 : Hid _ := wantK_no hm
                    clear hm
                    go_wp2_with fail
                    go_roundw
                    case rel => exact ⟨u + 1, a, cp, by omega, by go_num, by rw [HM1.out], by rw [HM1.out]; exact hown, bel, m1⟩
                    case measure => simp [intOf]; omega
                · have hun : u = n := by omega
                  have e := wantK_all HM.out HELT.out hn8 hlv
                  rw [hun, e] at hown ⊢
                  obtain ⟨A, tc, hA⟩ := (r7.r.succ.of_block (bel.block lb (by omega)) (bel.block ab (by omega))).lies HELT.out hlv
                  have hB : LiesA wr a (csA E v) := by
                    intro h0
                    obtain ⟨gs, rfl, _, _⟩ := own_cellA (q := 0) (u := .int .i32 (csA E v)[0]!) hown (by rw [List.getElem?_map, List.getElem?_eq_getElem h0, getElem!_pos _ 0 h0]; rfl)
                    refine ⟨gs, 0, rfl, fun j hj => ?_⟩
                    obtain ⟨gs', he, _, hc⟩ := own_cellA (q := j) (u := .int .i32 (csA E v)[j]!) hown (by rw [List.getElem?_map, List.getElem?_eq_getElem hj, getElem!_pos _ j hj]; rfl)
                    cases he
                    rw [Nat.zero_add]
                    exact hc
                  have c12 := eq12 a A cp (cntA E v) (csA E v) wr (csA_short HELT.out hElen hlv) hB hA
                  have gc1 := (bel.cell (p := ⟨G, 1, none⟩) (by simp)).trans (r7.r.gr.cell (i := 1) (by omega))
                  rw [if_neg (by omega)] at gc1
                  have gl := Nat.lt_of_lt_of_le r7.r.gr.lt bel.size
                  have tl := Nat.lt_of_lt_of_le r7.r.succ.top.lt bel.size
                  clear hown hA hB e hun
                  generalize (csA E v).length = ln at tc c12 ⊢
                  generalize cntA E v = ct at tc c12
                  go_wp2_with (go_at_call 12; refine c12.mono ?_; rintro e' w3 ⟨rfl, q, rfl⟩; have bel3 := below_drewN bel q; have m13 : MatAt (G + 1) M (wr.drewN q) := m1; clear c12; generalize wr.drewN q = w3 at *)
                  go_roundw
                  case rel => exact ⟨v + 1, by omega, by go_num, bel3, m13⟩
                  case measure => simp [intOf]; omega
            · have c11 : ∀ W', Below (G + 1) w7 W' → Calls Yba.prog 11 #[.pointer (some ⟨sb, 0, none⟩)] W' (fun e w' => e = .returned (.agg #[.slice (some ⟨tb, 0, none⟩) n n, .slice (some ⟨lb, 0, none⟩) n n]) ∧ Below (G + 1) w7 w' ∧ w'.cell? ⟨G, 0, none⟩ = some (.slice (some ⟨tb, 0, none⟩) n n) ∧ w'.cell? ⟨G, 1, none⟩ = some (.slice (some ⟨lb, 0, none⟩) n n) ∧ G < w'.heap.size) := fun W' hb => by
                refine (paths11b sb acb gb tb lb n W' (r7.src.of_block (hb.block _ (by omega))) (r7.gk.of_block (hb.block _ (by omega)))).mono ?_
                rintro e w' ⟨rfl, hb'⟩
                have hb8 : Below (G + 1) w7 w' := hb.trans (hb'.mono (by have := hb.size; omega))
                exact ⟨rfl, hb8, (hb8.cell (p := ⟨G, 0, none⟩) (by simp)).trans (r7.r.gr.cell (i := 0) (by omega)), (hb8.cell (p := ⟨G, 1, none⟩) (by simp)).trans (r7.r.gr.cell (i := 1) (by omega)), Nat.lt_of_lt_of_le r7.r.gr.lt hb8.size⟩
              have c13 : ∀ W', Below (G + 1) w7 W' → Calls Yba.prog 13 #[.agg #[.slice (some ⟨tb, 0, none⟩) n n, .slice (some ⟨lb, 0, none⟩) n n], .agg #[.slice (some ⟨tb, 0, none⟩) n n, .slice (some ⟨lb, 0, none⟩) n n]] W' (fun e w' => e = .returned (.bool true) ∧ Below (G + 1) w7 w') := fun W' hb => by
                refine (same13 tb lb ab n E F W' hn8 HELT.out hElen (r7.r.laid.txs.of_block (hb.block _ (by omega))) (r7.r.succ.of_block (hb.block _ (by omega)) (hb.block _ (by omega)))).mono ?_
                rintro e w' ⟨rfl, hb'⟩
                exact ⟨rfl, hb.trans (hb'.mono (by have := hb.size; omega))⟩
              have gc0 := (bel.cell (p := ⟨G, 0, none⟩) (by simp)).trans (r7.r.gr.cell (i := 0) (by omega))
              have gc1 := (bel.cell (p := ⟨G, 1, none⟩) (by simp)).trans (r7.r.gr.cell (i := 1) (by omega))
              rw [if_pos rfl] at gc0
              rw [if_neg (by omega)] at gc1
              have gl := Nat.lt_of_lt_of_le r7.r.gr.lt bel.size
              have belD : Below (G + 1) w7 wr.drew := below_drewN bel 1
              go_wp2_with fail
              go_region_with (first
                | (go_at_call 11; refine (c11 _ belD).mono ?_; rintro e w8 ⟨rfl, bel8, k0, k1, kl⟩)
                | (go_at_call 13; refine (c13 _ bel8).mono ?_; rintro e w9 ⟨rfl, bel9⟩))
              all_goals go_wp2_with fail
              all_goals go_ret
              all_goals exact ⟨rfl, b7.trans (bel9.mono (by have := q0.out; omega))⟩

end Go.Proofs.Ybulkbik
