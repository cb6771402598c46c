import Derived.Test.YbulkbikSort0
import Derived.Maps.AppendAt
namespace Go.Proofs.Ybulkbik
attribute [local go_sem ↓] Go.wp_at_zero Go.wp_at_succ
open Go.RowKit Go.Maps

/-- What the map from transactions to their numbers holds. -/
def ftOf (L : List Int) : Lit → Option Int
  | .int .i32 t => (L.findIdx? (fun s => decide (s = t))).map Int.ofNat
  | _ => none

theorem findIdx?_int {l : List Int} {s : Int} : l.findIdx? (fun x => decide (x = s)) = if s ∈ l then some (l.idxOf s) else none := by
  induction l with
  | nil => simp
  | cons a r ih =>
    rw [List.findIdx?_cons, List.idxOf_cons]
    by_cases h : a = s
    · simp [h]
    · have h' : ¬ s = a := fun e => h e.symm
      have hb : (a == s) = false := by simpa using h
      simp [h, h', ih, hb]

theorem ft_at (L : List Int) (t : Int) : ftOf L (.int .i32 t) = if t ∈ L then some ((L.idxOf t : Nat) : Int) else none := by
  show (L.findIdx? (fun s => decide (s = t))).map Int.ofNat = _
  rw [findIdx?_int]
  split <;> simp

theorem ft_upd (L : List Int) (t : Int) (h : t ∉ L) : Upd (ftOf L) (.int .i32 t) (L.length : Nat) (ftOf (L ++ [t])) := by
  refine ⟨?_, fun x hx => ?_⟩
  · rw [ft_at, if_pos (by simp), List.idxOf_append, if_neg h]
    simp
  · unfold ftOf
    split
    · rename_i a
      rw [List.findIdx?_append]
      have : ¬ t = a := fun e => hx (by rw [e])
      simp [this]
    · rfl

def tofCell (T : Nat → Int) (k j : Nat) : Value := if j < k then .int .i32 ((txsTo T j).idxOf (T j) : Nat) else .int .i32 0

theorem tofCell_step (T : Nat → Int) (k j : Nat) {v : Int} (hv : v = ((txsTo T k).idxOf (T k) : Nat)) : (if j = k then Value.int .i32 v else tofCell T k j) = tofCell T (k + 1) j := by
  unfold tofCell
  by_cases h : j = k
  · subst h; rw [if_pos rfl, if_pos (by omega), hv]
  · rw [if_neg h]
    by_cases h2 : j < k
    · rw [if_pos h2, if_pos (by omega)]
    · rw [if_neg h2, if_neg (by omega)]

def tx0Cell (_ : Nat) : Value := .slice none 0 0

/-- What stands in memory at the head of the first loop's round k. N: the first block of the call's own. -/
structure TxInv (T : Nat → Int) (n N : Nat) (w : World) (k : Nat) (a : Option Addr) (cp : Nat) (wr : World) : Prop where
  bel : Below N w wr
  res : wr.rowIs N 64 2 tx0Cell
  map : NumMap wr 45 (N + 1) k (ftOf (txsTo T k))
  box : wr.rowIs (N + 1 + 1) 24 1 (fun _ => .slice a (txsTo T k).length cp)
  row : wr.rowIs (N + 1 + 1 + 1) 21 n (tofCell T k)
  own : wr.ownsRow (N + 1 + 1 + 1 + 1) 45 1 (.slice a (txsTo T k).length cp) (txsTo T k).length ((txsTo T k).map (Value.int .i32))

theorem info45 : (Yba.prog.info? 45).map (fun i => (i.zero, i.size, i.bytes)) = some (some (.int .i32 0), 1, 4) := by kernel_rfl

theorem key45 (t : Int) (h0 : -2147483648 ≤ t) (h1 : t ≤ 2147483647) : keyOf Yba.prog 45 (.int .i32 t) = some (.int .i32 t) :=
  keyOf_int_mk Yba.underlying45 (wf_i32 h0 (by omega))

theorem own_shape {w : World} {base e size : Nat} {v : Value} {n : Nat} {xs : List Value} (h : w.ownsRow base e size v n xs) : ∃ a cp, v = .slice a n cp := by
  rcases h.2 with ⟨e, rfl⟩ | ⟨g, cap, cur, e, _⟩
  · exact ⟨none, 0, e⟩
  · exact ⟨_, _, e⟩

theorem own_setCell {w : World} {base : Nat} {e : TypeId} {size : Nat} {v : Value} {n : Nat} {xs : List Value} (h : w.ownsRow base e size v n xs) {a : Addr} (ha : a.block < base) (u : Value) : (w.setCell a u).ownsRow base e size v n xs :=
  ownsRow_setCell_below h ha u

/-- A block below a row's base is not the row's. -/
theorem own_ne {w : World} {base e size : Nat} {v : Value} {n : Nat} {xs : List Value} (h : w.ownsRow base e size v n xs) {b : Nat} (hb : b < base) : v.ownBlock = none ∨ v.ownBlock ≠ some b :=
  .inr fun e => by have := (h.lt b e).1; omega
theorem own_lt_ne {w : World} {base e size : Nat} {v : Value} {n : Nat} {xs : List Value} (h : w.ownsRow base e size v n xs) {b : Nat} (hb : b < base) : some b ≠ v.ownBlock :=
  fun e => by have := (h.lt b e.symm).1; omega

theorem TxInv.keep {T n N w k a cp wr} (h : TxInv T n N w k a cp wr) (o : Obj) (hm : T k ∈ txsTo T k) :
    TxInv T n N w (k + 1) a cp ((wr.setCell ⟨N + 1 + 1 + 1, k, none⟩ (.int .i32 ((txsTo T k).idxOf (T k) : Nat))).alloc o) := by
  obtain ⟨bel, res, map, box, row, own⟩ := h
  have hsz := row.lt
  have hs : txsTo T (k + 1) = txsTo T k := by rw [txsTo, if_pos hm]
  refine ⟨(bel.setCell (by simp <;> omega) _).alloc (by simp <;> omega) _, (res.setOther (by simp <;> omega) _).alloc _, ?_, ?_, ?_, ?_⟩
  · rw [hs]; exact ((map.setCell (by simp <;> omega) _).alloc _).mono (by omega)
  · rw [hs]; exact (box.setOther (by simp <;> omega) _).alloc _
  · exact ((row.set k _).alloc _).congr (fun i _ => tofCell_step T k i rfl)
  · rw [hs]; exact (own_setCell own (by simp) _).alloc _

theorem TxInv.new {T n N w k a cp wr w1 w3 a3 cp3} {o o2 : Obj} (h : TxInv T n N w k a cp wr) (hm : T k ∉ txsTo T k)
    (hm1 : ∀ f', Upd (ftOf (txsTo T k)) (.int .i32 (T k)) ((txsTo T k).length : Nat) f' → NumMap w1 45 (N + 1) (k + 1) f') (hg1 : (wr.alloc o).grownBy w1 (some (N + 1)))
    (hg3 : (w1.alloc o2).grownBy w3 (Value.slice a (txsTo T k).length cp).ownBlock)
    (ho : w3.ownsRow (N + 1 + 1 + 1 + 1) 45 1 (.slice a3 ((txsTo T k).length + 1) cp3) ((txsTo T k).length + 1) ((txsTo T k).map (Value.int .i32) ++ [.int .i32 (T k)])) :
    TxInv T n N w (k + 1) a3 cp3 ((w3.setCell ⟨N + 1 + 1, 0, none⟩ (.slice a3 ((txsTo T k).length + 1) cp3)).setCell ⟨N + 1 + 1 + 1, k, none⟩ (.int .i32 ((txsTo T k).length : Nat))) := by
  obtain ⟨bel, res, map, box, row, own⟩ := h
  have hsz := row.lt
  have hs1 := hg1.size
  simp only [World.size_alloc] at hs1
  have hs : txsTo T (k + 1) = txsTo T k ++ [T k] := by rw [txsTo, if_neg hm]
  have hl : (txsTo T (k + 1)).length = (txsTo T k).length + 1 := by rw [hs]; simp
  have own1 := (own.alloc o).kept hg1 (own_ne own (by omega))
  have hne : ∀ b, b < N + 1 + 1 + 1 + 1 → some b ≠ (Value.slice a (txsTo T k).length cp).ownBlock := fun b hb => own_lt_ne own1 hb
  refine ⟨?_, ?_, ?_, ?_, ?_, ?_⟩
  · exact ((((((bel.alloc (by omega) o).grown hg1 (by simp; omega) (fun j hj => by cases hj; omega)).alloc (by omega) o2).grown hg3 (by simp; omega) (fun j hj => by have := (own1.lt j hj).1; omega)).setCell (by simp <;> omega) _).setCell (by simp <;> omega) _)
  · exact ((rowIs_grown ((rowIs_grown (res.alloc o) hg1 (by simp <;> omega)).alloc o2) hg3 (hne _ (by omega))).setOther (by simp <;> omega) _).setOther (by simp <;> omega) _
  · rw [hs]
    exact ((((hm1 _ (ft_upd _ _ hm)).alloc o2).grown hg3 (hne _ (by omega))).setCell (by simp) _).setCell (by simp) _
  · rw [hl]
    exact (((rowIs_grown ((rowIs_grown (box.alloc o) hg1 (by simp <;> omega)).alloc o2) hg3 (hne _ (by omega))).set 0 _).setOther (by simp) _).congr (fun i hi => by simp [show i = 0 by omega])
  · exact (((rowIs_grown ((rowIs_grown (row.alloc o) hg1 (by simp <;> omega)).alloc o2) hg3 (hne _ (by omega))).setOther (by simp) _).set k _).congr (fun i _ => tofCell_step T k i (by rw [List.idxOf_eq_length hm]))
  · rw [hl, hs, List.map_append]
    exact own_setCell (own_setCell ho (by simp) _) (by simp) _

theorem TxInv.start (T : Nat → Int) (n : Nat) (w : World) : TxInv T n w.heap.size w 0 none 0
    ((((w.alloc (.cells #[.slice none 0 0, .slice none 0 0] 64)).alloc (.map #[] 0)).alloc (.cells #[.slice none 0 0] 24)).alloc (.cells (madeCells #[.int .i32 0] n) 21)) := by
  refine ⟨((((Below.refl _ _).alloc (Nat.le_refl _) _).alloc (by simp) _).alloc (by simp; omega) _).alloc (by simp; omega) _, ?_, ?_, ?_, ?_, World.ownsRow_nil _ _ _ _⟩
  · have := World.rowIs_alloc w #[.slice none 0 0, .slice none 0 0] 64 tx0Cell (fun i hi => by
      match i, hi with
      | 0, _ => rfl
      | 1, _ => rfl)
    exact ((this.alloc _).alloc _).alloc _
  · have := NumMap.made (w.alloc (.cells #[.slice none 0 0, .slice none 0 0] 64)) 45
    simp only [World.size_alloc] at this
    have e : ftOf (txsTo T 0) = fun _ => none := by funext kl; unfold ftOf; split <;> rfl
    rw [e]
    exact (this.alloc _).alloc _
  · have := World.rowIs_alloc ((w.alloc (.cells #[.slice none 0 0, .slice none 0 0] 64)).alloc (.map #[] 0)) #[.slice none 0 0] 24 (fun _ => .slice none (txsTo T 0).length 0) (fun i hi => by
      match i, hi with
      | 0, _ => rfl)
    simp only [World.size_alloc] at this
    exact this.alloc _
  · have := World.rowIs_made (((w.alloc (.cells #[.slice none 0 0, .slice none 0 0] 64)).alloc (.map #[] 0)).alloc (.cells #[.slice none 0 0] 24)) (.int .i32 0) n 21
    simp only [World.size_alloc] at this
    exact this.congr (fun i _ => by simp [tofCell])

theorem make24 (n : Nat) (hn : n ≤ 1000000) (w : World) : (Instr.makeSlice 24 (.int .i64 (n : Int)) (.int .i64 (n : Int))).run Yba.prog w =
    .ok (.slice (some ⟨w.heap.size, 0, none⟩) n n) (w.alloc (.cells (madeCells #[.int .i32 0] n) 45)) :=
  run_make_row' 24 45 (.int .i32 0) 4 Yba.underlying24 info45 rfl .i64 .i64 n (by omega) (by omega) w

theorem own_below {w w' : World} {base e size : Nat} {v : Value} {n : Nat} {xs : List Value} (h : w.ownsRow base e size v n xs) {B : Nat} (hb : Below B w w') (hB : w.heap.size ≤ B) : w'.ownsRow base e size v n xs :=
  h.kept (row := none) ⟨hb.os, hb.tape, hb.output, hb.size, fun k hk _ => hb.block k (by omega)⟩ (by cases hv : v.ownBlock <;> simp)

theorem own_at_tx {w : World} {base : Nat} {a : Option Addr} {cp m : Nat} {l : List Int} (h : w.ownsRow base 45 1 (.slice a m cp) m (l.map (Value.int .i32))) (hl : l.length = m) {q : Nat} (hq : q < m) :
    ∃ gs, a = some ⟨gs, 0, none⟩ ∧ base ≤ gs ∧ gs < w.heap.size ∧ ∀ j, j < m → w.cell? ⟨gs, j, none⟩ = some (.int .i32 (l.getD j 0)) := by
  rcases h.2 with ⟨e, h0⟩ | ⟨g, cap, cur, e, hb, hg, r⟩
  · omega
  · simp at e
    obtain ⟨rfl, rfl⟩ := e
    refine ⟨g, rfl, hb, (h.lt g rfl).2, fun j hj => ?_⟩
    have := h.cells (g := g) rfl j (.int .i32 (l.getD j 0)) (by simp [hl, hj])
    rwa [Addr.add_lit, Nat.zero_add] at this

theorem perm_lt {P : List Nat} {m : Nat} (h : P.Perm (List.range m)) {r : Nat} (hr : r < m) : P.getD r 0 < m := by
  have hl : P.length = m := by rw [h.length_eq]; simp
  have : P.getD r 0 ∈ P := by
    rw [List.getD_eq_getElem?_getD, List.getElem?_eq_getElem (by omega)]
    simp
  have := h.mem_iff.1 this
  simpa using this

theorem perm_inj {P : List Nat} {m : Nat} (h : P.Perm (List.range m)) {r r' : Nat} (hr : r < m) (hr' : r' < m) (e : P.getD r 0 = P.getD r' 0) : r = r' := by
  have hl : P.length = m := by rw [h.length_eq]; simp
  have hn : P.Nodup := (h.nodup_iff).2 List.nodup_range
  rw [List.getD_eq_getElem?_getD, List.getD_eq_getElem?_getD (l := P), List.getElem?_eq_getElem (show r < P.length by omega), List.getElem?_eq_getElem (show r' < P.length by omega)] at e
  simp only [Option.getD_some] at e
  exact nodup_inj hn _ _ e

/-- The rank that the sorted list gives to a transaction. -/
theorem rank_at {L : List Int} {P : List Nat} {f : Nat → Value} {t : Int} (hL : L.Nodup) (hP : P.Perm (List.range L.length))
    (hs : ∀ i j, i < j → j < L.length → L.getD (P.getD i 0) 0 ≤ L.getD (P.getD j 0) 0) (hf : ∀ r, r < L.length → f (P.getD r 0) = .int .i32 (r : Nat)) (ht : t ∈ L) :
    L.idxOf t < L.length ∧ f (L.idxOf t) = .int .i32 (L.countP (fun v => decide (v < t)) : Nat) := by
  have hj := List.idxOf_lt_length_of_mem ht
  refine ⟨hj, ?_⟩
  have hmem : L.idxOf t ∈ P := hP.mem_iff.2 (by simpa using hj)
  obtain ⟨r, hr, er⟩ := List.mem_iff_getElem.1 hmem
  have hl : P.length = L.length := by rw [hP.length_eq]; simp
  have hg : P.getD r 0 = L.idxOf t := by simp [hr, er]
  have hLt : L.getD (P.getD r 0) 0 = t := by
    rw [hg, List.getD_eq_getElem?_getD, List.getElem?_eq_getElem hj]
    simp
  have := rank_of_perm L hL P hP hs r (by omega)
  rw [hLt] at this
  rw [this, ← hg]
  exact hf r (by omega)

theorem info64 : (Yba.prog.info? 64).map (·.size) = some 2 := by kernel_rfl

theorem ret64 {fn : Func} {p : Tmp} (h : fn.results = #[.cell p 64]) {tmps : Array Value} {w : World} {g t : Nat} {f : Nat → Value} (hp : tmps.getD p undef = .pointer (some ⟨g, 0, none⟩)) (hr : w.rowIs g t 2 f) :
    (results fn tmps).run Yba.prog w = .ok (.agg #[f 0, f 1]) w :=
  results_cell_row h tmps w g t _ _ _ hp (rowIs_block2 hr) Yba.underlying64 rfl info64

theorem sort34_any (B bx m cp : Nat) (a : Option Addr) (L : List Int) (base : Nat) (w : World) (hm2 : m ≤ 1000000) (hL : L.length = m) (hrow : w.rowIs B 21 m (fun j => .int .i32 (j : Nat))) (hbox : w.cell? ⟨bx, 0, none⟩ = some (.slice a m cp))
    (hown : w.ownsRow base 45 1 (.slice a m cp) m (L.map (Value.int .i32))) (h1 : bx ≠ B) (h2 : ∀ g, a = some ⟨g, 0, none⟩ → g ≠ B) :
    Calls Yba.prog 34 #[.slice (some ⟨B, 0, none⟩) m m, .func (.func 35) #[] #[.pointer (some ⟨bx, 0, none⟩)]] w fun e w' => e = .returned (.tuple #[]) ∧
      ∃ P : List Nat, P.Perm (List.range m) ∧ (∀ i j, i < j → j < m → L.getD (P.getD i 0) 0 ≤ L.getD (P.getD j 0) 0) ∧ w'.rowIs B 21 m (fun r => .int .i32 (P.getD r 0 : Nat)) ∧ w.grownBy w' (some B) := by
  by_cases hm : 0 < m
  · obtain ⟨g, rfl, _, _, hc⟩ := own_at_tx hown hL hm
    exact sort34 B bx g m cp L w hm hm2 hrow hbox hc h1 (h2 g rfl)
  · have : m = 0 := by omega
    subst this
    refine (sort34_zero _ _ _).mono ?_
    rintro e w' ⟨rfl, rfl⟩
    exact ⟨rfl, [], List.Perm.refl _, fun i j _ h => absurd h (Nat.not_lt_zero _), hrow.congr (fun i hi => absurd hi (Nat.not_lt_zero _)), World.grownBy.refl _ _⟩

set_option maxRecDepth 100000 in
set_option maxHeartbeats 2000000 in
theorem tx25 (ob n : Nat) (K S : Nat → ByteArray) (T : Nat → Int) (w : World) (hn : n ≤ 256) (hops : w.rowIs ob 76 (n * 3) (opCell K T S)) (hT : ∀ i, i < n → -2147483648 ≤ T i ∧ T i ≤ 2147483647) :
    Calls Yba.prog 25 #[.slice (some ⟨ob, 0, none⟩) n n] w fun e w' => ∃ g, e = .returned (.agg #[.slice (some ⟨g, 0, none⟩) (txsTo T n).length (txsTo T n).length, .slice (some ⟨w.heap.size + 3, 0, none⟩) n n]) ∧ Below w.heap.size w w' ∧
      w'.rowIs (w.heap.size + 3) 21 n (fun j => .int .i32 ((txsTo T n).countP (fun v => decide (v < T j)) : Nat)) := by
  have hmm := @run_makeMap Yba.prog
  have hmk := make43 n (by omega)
  have hobl := hops.lt
  obtain ⟨i45, hi45, hz450, hz451, hz452⟩ := info_parts info45
  go_enter Yba.func25, Yba.ntmps25
  go_wp2_with fail
  go_loopw [24] (fun i wr => ∃ (k : Nat) (a : Option Addr) (cp : Nat), k ≤ n ∧ i = .int .i64 k ∧ TxInv T n w.heap.size w k a cp wr) (fun i _ => n - (intOf i).toNat)
  case atStart => exact ⟨0, none, 0, Nat.zero_le _, rfl, TxInv.start T n w⟩
  case round =>
    obtain ⟨k, a, cp, hk, rfl, hI⟩ := hrel
    have HI : Hid (TxInv T n w.heap.size w k a cp wr) := hI
    obtain ⟨bel, res, map, box, row, own⟩ := hI
    have b0 := box.cell (i := 0) (by omega)
    have fb0 := box.frozen 0
    have hsz2 := box.lt
    have hsz3 := row.lt
    have hsl := txsTo_le T k
    by_cases hlt : k < n
    · have o0 : wr.cell? ⟨ob, k * 3, none⟩ = some (.string (K k)) := by
        rw [bel.cell (by exact hobl), hops.cell (by omega), opCell0]
      have o1 : wr.cell? ⟨ob, k * 3 + 1, none⟩ = some (.int .i32 (T k)) := by
        rw [bel.cell (by exact hobl), hops.cell (by omega), opCell1]
      have o2 : wr.cell? ⟨ob, k * 3 + 2, none⟩ = some (.string (S k)) := by
        rw [bel.cell (by exact hobl), hops.cell (by omega), opCell2]
      have hobr : ob < wr.heap.size := by omega
      have rk := row.cell (i := k) hlt
      have frk := row.frozen k
      obtain ⟨hT0, hT1⟩ := hT k hlt
      by_cases hmem : T k ∈ txsTo T k
      · obtain ⟨c, hrun, hc⟩ := (map.alloc (.cells #[.string (K k), .int .i32 (T k), .string (S k)] 76)).look K45 Yba.underlying103 (key45 (T k) hT0 hT1)
        have e := hc _ (by rw [ft_at, if_pos hmem])
        subst e
        rw [ft_at, if_pos hmem] at hrun
        simp at hrun
        clear hmm hmk
        go_wp2_with fail
        go_roundw
        case rel => exact ⟨k + 1, a, cp, by omega, by go_num, HI.out.keep _ hmem⟩
        case measure => simp [intOf]; omega
      · obtain ⟨c, hrun, _⟩ := (map.alloc (.cells #[.string (K k), .int .i32 (T k), .string (S k)] 76)).look K45 Yba.underlying103 (key45 (T k) hT0 hT1)
        rw [ft_at, if_neg hmem] at hrun
        simp at hrun
        obtain ⟨w1, hst, hm1, hg1⟩ := (map.alloc (.cells #[.string (K k), .int .i32 (T k), .string (S k)] 76)).store K45 Yba.underlying103 (by unfold maxLen; omega) (key45 (T k) hT0 hT1) (v := ((txsTo T k).length : Nat)) (wf_i32 (by omega) (by omega))
        have hw1 := hg1.size
        simp only [World.size_alloc] at hw1
        have box1 := rowIs_grown (box.alloc (.cells #[.string (K k), .int .i32 (T k), .string (S k)] 76)) hg1 (by simp <;> omega)
        have row1 := rowIs_grown (row.alloc (.cells #[.string (K k), .int .i32 (T k), .string (S k)] 76)) hg1 (by simp <;> omega)
        have own1 := (own.alloc (.cells #[.string (K k), .int .i32 (T k), .string (S k)] 76)).kept hg1 (own_ne own (by omega))
        have p0 := box1.cell (i := 0) (by omega)
        have p1 := box1.frozen 0
        have p2 := row1.cell (i := k) hlt
        have p3 := row1.frozen k
        have p4 : w1.cell? ⟨wr.heap.size, 1, none⟩ = some (.int .i32 (T k)) := hg1.cell ((World.cell?_alloc_at (w := wr) _ _ _ _ rfl).trans rfl) (by simp; omega)
        have p5 : wr.heap.size < w1.heap.size := by omega
        have p6 : w.heap.size + 1 + 1 < w1.heap.size := by omega
        have p7 : w.heap.size + 1 + 1 + 1 < w1.heap.size := by omega
        have Hm1 : Hid _ := hm1
        have Hg1 : Hid _ := hg1
        clear hm1 hg1 hmm hmk
        go_wp2_with (first
          | (at_builtin; (refine wpList_append_own _ rfl _ _ 24 rfl (w.heap.size + 1 + 1 + 1 + 1) 45 i45 (.int .i32 0) 1 4 Yba.underlying24 hi45 hz450 hz451 hz452 rfl (by decide) _ _ _ rfl (own1.alloc _) ⟨w1.heap.size, 0, none⟩ 1 1 [.int .i32 (T k)] rfl rfl (cell_one_new _ _ _) (by simp [Value.oneCell']) (by unfold maxLen; omega) (by omega) (by simp; omega) ?_; intro v' w3 hown' hgrow hnil; obtain ⟨a3, cp3, hv3⟩ := own_shape hown'; subst hv3; have q0 := rowIs_grown (box1.alloc _) hgrow (own_lt_ne own1 (by omega)); have q1 := rowIs_grown (row1.alloc _) hgrow (own_lt_ne own1 (by omega)); have y0 := q0.cell (i := 0) (by omega); have y1 := q0.frozen 0; have y2 := q1.cell (i := k) hlt; have y3 := q1.frozen k; have HO : Hid _ := hown'; have HG : Hid _ := hgrow; clear hown' hgrow hnil)))
        go_roundw
        case rel => exact ⟨k + 1, a3, cp3, by omega, by go_num, HI.out.new hmem Hm1.out Hg1.out HG.out HO.out⟩
        case measure => simp [intOf]; omega
    · have hkn : k = n := by omega
      subst hkn
      have HL1 : Hid (∀ i, i < k → (txsTo T i).idxOf (T i) = (txsTo T k).idxOf (T i)) := fun i hi => idxOf_txsTo T hi
      have HL2 : Hid (∀ i, i < k → T i ∈ txsTo T k) := fun i hi => (mem_txsTo T k _).2 ⟨i, hi, rfl⟩
      have HL3 : Hid (txsTo T k).Nodup := txsTo_nodup T k
      have row' := row.congr (g := fun j => .int .i32 ((txsTo T k).idxOf (T j) : Nat)) (fun i hi => by simp [tofCell, hi, HL1.out i hi])
      clear HI HL1 map row
      generalize hLe : txsTo T k = L at *
      have HLE : Hid (txsTo T k = L) := hLe
      clear hLe
      generalize wr = w1 at *
      have hmk2 := make43 L.length (by omega)
      have hmk3 := make24 L.length (by omega)
      clear hmm hmk
      go_wp2_with fail
      go_loopw [60] (fun i wr => ∃ q : Nat, q ≤ L.length ∧ i = .int .i64 q ∧ Below w1.heap.size w1 wr ∧ wr.rowIs w1.heap.size 21 L.length (fun j => if j < q then .int .i32 (j : Nat) else .int .i32 0)) (fun i _ => L.length - (intOf i).toNat)
      case atStart => exact ⟨0, Nat.zero_le _, rfl, (Below.refl _ _).alloc (Nat.le_refl _) _, (World.rowIs_made w1 (.int .i32 0) L.length 21).congr (fun i _ => by simp)⟩
      case round =>
        obtain ⟨q, hq, rfl, hb2, hr2⟩ := hrel
        by_cases hql : q < L.length
        · have c2 := hr2.cell (i := q) hql
          have f2 := hr2.frozen q
          go_wp2_with fail
          go_roundw
          case rel =>
            refine ⟨q + 1, by omega, by go_num, hb2.setCell (Nat.le_refl _) _, (hr2.set q _).congr (fun i _ => ?_)⟩
            by_cases h1 : i = q
            · simp [h1]
            · by_cases h2 : i < q
              · simp [h1, h2, show i < q + 1 by omega]
              · simp [h1, h2, show ¬ i < q + 1 by omega]
          case measure => simp [intOf]; omega
        · have hr2' := hr2.congr (g := fun j => .int .i32 (j : Nat)) (fun i hi => by simp [show i < q by omega])
          have box2 : wr.cell? ⟨w.heap.size + 1 + 1, 0, none⟩ = some (.slice a L.length cp) := (hb2.cell (by exact hsz2)).trans b0
          have hs2 := hb2.size
          have own2 := own_below own hb2 (Nat.le_refl _)
          go_wp2_with fail
          refine (sort34_any w1.heap.size (w.heap.size + 1 + 1) L.length cp a L _ _ (by omega) rfl hr2' box2 own2 (by omega) ?_).mono ?_
          · intro g hg
            have := (own.lt g (by rw [hg]; rfl)).2
            omega
          rintro e w3 ⟨rfl, P, hP, hPs, hr3, hg3⟩
          have HP : Hid _ := hP
          have HPs : Hid _ := hPs
          have box3 : w3.cell? ⟨w.heap.size + 1 + 1, 0, none⟩ = some (.slice a L.length cp) := hg3.cell box2 (by simp; omega)
          have hs3 := hg3.size
          have l2 : w.heap.size + 1 + 1 < w3.heap.size := by omega
          have l3 : w.heap.size + 1 + 1 + 1 < w3.heap.size := by omega
          have l0 : w.heap.size < w3.heap.size := by omega
          have l1 : w1.heap.size < w3.heap.size := hr3.lt
          have own3 := own2.kept hg3 (Or.inr fun e => by have := (own.lt _ e).2; omega)
          have row3 := rowIs_grown (row'.of_block (hb2.block _ hsz3)) hg3 (by simp; omega)
          have res3 := rowIs_grown (res.of_block (hb2.block _ (by omega))) hg3 (by simp; omega)
          have bel3 : Below w.heap.size w w3 := (bel.trans (hb2.mono (by omega))).grown hg3 (by omega) (fun j hj => by cases hj; omega)
          have hPl : Hid (∀ r, r < L.length → P.getD r 0 < L.length) := fun r hr => perm_lt hP hr
          have hPi : Hid (∀ r r', r < L.length → r' < L.length → P.getD r 0 = P.getD r' 0 → r = r') := fun r r' hr hr' e => perm_inj hP hr hr' e
          clear hP hPs hr2 hr2' box2 own2 hg3 own box b0 fb0 row' res bel hb2 hs2 hs3 hsz2 hsz3 hT hops
          go_wp2_with fail
          go_loopw [80] (fun i w4 => ∃ (q : Nat) (f h : Nat → Value), q ≤ L.length ∧ i = .int .i64 q ∧ Below w3.heap.size w3 w4 ∧ w4.rowIs w3.heap.size 21 L.length f ∧ w4.rowIs (w3.heap.size + 1) 45 L.length h ∧ (∀ r, r < q → f (P.getD r 0) = .int .i32 (r : Nat)))
            (fun i _ => L.length - (intOf i).toNat)
          case atStart =>
            refine ⟨0, fun _ => .int .i32 0, fun _ => .int .i32 0, Nat.zero_le _, rfl, ((Below.refl _ _).alloc (Nat.le_refl _) _).alloc (by simp) _, (World.rowIs_made w3 (.int .i32 0) L.length 21).alloc _, ?_, fun r hr => absurd hr (Nat.not_lt_zero _)⟩
            have := World.rowIs_made (w3.alloc (.cells (madeCells #[.int .i32 0] L.length) 21)) (.int .i32 0) L.length 45
            simp only [World.size_alloc] at this
            exact this
          case round =>
            obtain ⟨q4, f, h, hq4, rfl, hb4, hf4, hh4, hfp⟩ := hrel
            have HF : Hid (∀ r, r < q4 → f (P.getD r 0) = .int .i32 (r : Nat)) := hfp
            clear hfp
            have l41 := hf4.lt
            have l42 := hh4.lt
            by_cases hql4 : q4 < L.length
            · have hpq := hPl.out q4 hql4
              obtain ⟨gs, rfl, hgs, hgl, hcells⟩ := own_at_tx own3 rfl hql4
              have c0 : wr.cell? ⟨w1.heap.size, q4, none⟩ = some (.int .i32 (P.getD q4 0 : Nat)) := (hb4.cell (by exact l1)).trans (hr3.cell hql4)
              have hx := hcells _ hpq
              generalize hpv : P.getD q4 0 = pq at *
              have HPV : Hid (P.getD q4 0 = pq) := hpv
              have c1 := (hb4.cell (p := ⟨gs, pq, none⟩) hgl).trans hx
              have c2 := (hb4.cell (p := ⟨w.heap.size + 1 + 1, 0, none⟩) l2).trans box3
              have c3 := hf4.cell hpq
              have c4 := hf4.frozen pq
              have c5 := hh4.cell hql4
              have c6 := hh4.frozen q4
              generalize L.getD pq 0 = lv at *
              clear hpv hcells
              go_wp2_with fail
              go_roundw
              case rel =>
                refine ⟨q4 + 1, fun j => if j = pq then .int .i32 (q4 : Nat) else f j, _, by omega, by go_num, (hb4.setCell (by simp) _).setCell (by simp) _, (hf4.set pq _).setOther (by simp) _, (hh4.setOther (by simp) _).set q4 _, fun r hr => ?_⟩
                show (if P.getD r 0 = pq then Value.int .i32 (q4 : Nat) else f (P.getD r 0)) = _
                by_cases hrq : r = q4
                · rw [hrq, HPV.out, if_pos rfl]
                · rw [if_neg (fun e => hrq (hPi.out r q4 (by omega) hql4 (by rw [e, HPV.out]))), HF.out r (by omega)]
              case measure => simp [intOf]; omega
            · have hqe : q4 = L.length := by omega
              subst hqe
              have HR : Hid (∀ i, i < k → L.idxOf (T i) < L.length ∧ f (L.idxOf (T i)) = .int .i32 (L.countP (fun v => decide (v < T i)) : Nat)) := fun i hi => rank_at HL3.out HP.out HPs.out HF.out (HL2.out i hi)
              have row4 := row3.of_block (hb4.block _ l3)
              have res4 := res3.of_block (hb4.block _ l0)
              have bel4 := bel3.trans (hb4.mono (by omega))
              clear HF HP HPs hPl hPi HL2 HL3 hr3 own3 row3 res3 bel3 hmk2 hmk3 box3
              generalize wr = w4 at *
              go_wp2_with fail
              go_loopw [100] (fun i w5 => ∃ q : Nat, q ≤ k ∧ i = .int .i64 q ∧ Below w.heap.size w w5 ∧ w5.rowIs (w.heap.size + 1 + 1 + 1) 21 k (fun j => if j < q then .int .i32 (L.countP (fun v => decide (v < T j)) : Nat) else .int .i32 (L.idxOf (T j) : Nat)) ∧
                  w5.rowIs w3.heap.size 21 L.length f ∧ w5.rowIs w.heap.size 64 2 tx0Cell) (fun i _ => k - (intOf i).toNat)
              case atStart => exact ⟨0, Nat.zero_le _, rfl, bel4, row4.congr (fun i _ => by simp), hf4, res4⟩
              case round =>
                obtain ⟨q5, hq5, rfl, hb5, hr5, hf5, hs5⟩ := hrel
                by_cases hql5 : q5 < k
                · obtain ⟨hR1, hR2⟩ := HR.out q5 hql5
                  have c0 := hr5.cell hql5
                  have c1 := hr5.frozen q5
                  have c2 := hf5.cell hR1
                  rw [hR2] at c2
                  simp only [Nat.lt_irrefl, if_false] at c0
                  clear hR2
                  generalize hv1 : L.idxOf (T q5) = iv at *
                  generalize hv2 : L.countP (fun v => decide (v < T q5)) = cv at *
                  have HV1 : Hid (L.idxOf (T q5) = iv) := hv1
                  have HV2 : Hid (L.countP (fun v => decide (v < T q5)) = cv) := hv2
                  clear hv1 hv2
                  go_wp2_with fail
                  go_roundw
                  case rel =>
                    refine ⟨q5 + 1, by omega, by go_num, hb5.setCell (by simp; omega) _, (hr5.set q5 _).congr (fun i _ => ?_), hf5.setOther (by simp; omega) _, hs5.setOther (by simp; omega) _⟩
                    by_cases h1 : i = q5
                    · subst h1; simp [HV2.out]
                    · by_cases h2 : i < q5
                      · simp [h1, h2, show i < q5 + 1 by omega]
                      · simp [h1, h2, show ¬ i < q5 + 1 by omega]
                  case measure => simp [intOf]; omega
                · have r0 := hs5.cell (i := 0) (by omega)
                  have r1 := hs5.cell (i := 1) (by omega)
                  have fr0 := hs5.frozen 0
                  have fr1 := hs5.frozen 1
                  go_wp2_with fail
                  have hr := (hs5.set 0 (.slice (some ⟨w3.heap.size + 1, 0, none⟩) L.length L.length)).set 1 (.slice (some ⟨w.heap.size + 1 + 1 + 1, 0, none⟩) k k)
                  refine bodyPost_ret (ret64 Yba.results25 rfl hr) rfl ?_
                  rw [HLE.out]
                  refine ⟨w3.heap.size + 1, rfl, (hb5.setCell (Nat.le_refl _) _).setCell (Nat.le_refl _) _, ?_⟩
                  exact ((hr5.setOther (by simp; omega) _).setOther (by simp; omega) _).congr (fun i hi => by simp [show i < q5 by omega])

end Go.Proofs.Ybulkbik
