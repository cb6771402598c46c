import Derived.Test.YbulkbikItems
namespace Go.Proofs.Ybulkbik
attribute [local go_sem ↓] Go.wp_at_zero Go.wp_at_succ
open Go.RowKit Go.Maps

theorem info21 : (Yba.prog.info? 21).map (fun i => (i.zero, i.size, i.bytes)) = some (some (.int .i32 0), 1, 4) := by kernel_rfl

theorem make43 (n : Nat) (hn : n ≤ 1000000) (w : World) : (Instr.makeSlice 43 (.int .i64 (n : Int)) (.int .i64 (n : Int))).run Yba.prog w =
    .ok (.slice (some ⟨w.heap.size, 0, none⟩) n n) (w.alloc (.cells (madeCells #[.int .i32 0] n) 21)) :=
  run_make_row' 43 21 (.int .i32 0) 4 Yba.underlying43 info21 rfl .i64 .i64 n (by omega) (by omega) w

/-- 'shortKey', whatever the name. -/
def skG (s : ByteArray) : Int := if s.size ≤ 7 then (skey s.data.toList : Nat) else 0
def shB (s : ByteArray) : Bool := decide (s.size ≤ 7)

theorem short_all (s : ByteArray) (w : World) :
    Calls Yba.prog 38 #[.string s] w fun e w' => e = .returned (.tuple #[.int .u64 (skG s), .bool (shB s)]) ∧ w' = w := by
  by_cases h : s.size ≤ 7
  · have := short_any s w h
    simpa [skG, shB, h] using this
  · have := long_any s w (by omega)
    simpa [skG, shB, h] using this

theorem rowIs_grown {w w' : World} {b t n : Nat} {f : Nat → Value} {row : Option Nat} (h : w.rowIs b t n f) (hg : w.grownBy w' row) (hne : some b ≠ row) : w'.rowIs b t n f :=
  h.of_block (hg.block b h.lt hne)

theorem NumMap.grown {w w' : World} {k b n f} {row : Option Nat} (h : NumMap w k b n f) (hg : w.grownBy w' row) (hne : some b ≠ row) : NumMap w' k b n f :=
  h.of_block (hg.block b h.lt hne)
theorem NumMap.alloc {w : World} {k b n f} (h : NumMap w k b n f) (o : Obj) : NumMap (w.alloc o) k b n f := h.of_block (heap_alloc_old w o h.lt)
theorem NumMap.drew {w : World} {k b n f} (h : NumMap w k b n f) : NumMap w.drew k b n f := h
theorem NumMap.setCell {w : World} {k b n f} (h : NumMap w k b n f) {a : Addr} (ha : b ≠ a.block) (v : Value) : NumMap (w.setCell a v) k b n f := h.of_block (Below.heap_setCell _ _ _ _ ha)

theorem rowIs_block2 {w : World} {b t : Nat} {f : Nat → Value} (h : w.rowIs b t 2 f) : w.heap[b]? = some (.cells #[f 0, f 1] t (0, 0)) := by
  obtain ⟨c, hb, hn, hc⟩ := h
  rw [hb]
  have h0 := hc 0 (by omega)
  have h1 := hc 1 (by omega)
  have e : c = #[f 0, f 1] := by
    apply Array.ext_getElem?
    intro i
    match i with
    | 0 => exact h0
    | 1 => exact h1
    | i + 2 => simp [hn]
  rw [e]

theorem info71 : (Yba.prog.info? 71).map (·.size) = some 2 := by kernel_rfl

/-- A struct of type 71 that lies in memory, as a result. -/
theorem ret71 {fn : Func} {p : Tmp} (h : fn.results = #[.cell p 71]) {tmps : Array Value} {w : World} {g t : Nat} {f : Nat → Value} (hp : tmps.getD p undef = .pointer (some ⟨g, 0, none⟩)) (hr : w.rowIs g t 2 f) :
    (results fn tmps).run Yba.prog w = .ok (.agg #[f 0, f 1]) w :=
  results_cell_row h tmps w g t _ _ _ hp (rowIs_block2 hr) Yba.underlying71 rfl info71

def ofCell (K S : Nat → ByteArray) (k j : Nat) : Value := if j < k then .int .i32 (numAt K S j) else .int .i32 0
def itCell (c : Int) (g n : Nat) (j : Nat) : Value := if j = 0 then .int .i64 c else .slice (some ⟨g, 0, none⟩) n n
def it0Cell (j : Nat) : Value := if j = 0 then .int .i64 0 else .slice none 0 0

/-- What stands in memory at the head of round k. N: the first block of the call's own. -/
structure ItemsInv (K S : Nat → ByteArray) (n N : Nat) (w : World) (k : Nat) (wr : World) : Prop where
  bel : Below N w wr
  res : wr.rowIs N 71 2 it0Cell
  short : NumMap wr 114 (N + 1) k (fsOf (seenTo K S k))
  long : NumMap wr 9 (N + 1 + 1) k (flOf (seenTo K S k))
  row : wr.rowIs (N + 1 + 1 + 1) 21 n (ofCell K S k)
  items : wr.rowIs (N + 1 + 1 + 1 + 1) 71 2 (itCell (seenTo K S k).length (N + 1 + 1 + 1) n)

theorem ItemsInv.start (K S : Nat → ByteArray) (n : Nat) (w : World) : ItemsInv K S n w.heap.size w 0
    (((((w.alloc (.cells #[.int .i64 0, .slice none 0 0] 71)).alloc (.map #[] 0)).alloc (.map #[] 0)).alloc (.cells (madeCells #[.int .i32 0] n) 21)).alloc
      (.cells #[.int .i64 0, .slice (some ⟨w.heap.size + 1 + 1 + 1, 0, none⟩) n n] 71)) := by
  refine ⟨((((Below.refl _ _).alloc (Nat.le_refl _) _).alloc (by simp) _).alloc (by simp; omega) _ |>.alloc (by simp; omega) _).alloc (by simp; omega) _, ?_, ?_, ?_, ?_, ?_⟩
  · have := World.rowIs_alloc w #[.int .i64 0, .slice none 0 0] 71 it0Cell (fun i hi => by
      match i, hi with
      | 0, _ => rfl
      | 1, _ => rfl)
    exact (((this.alloc _).alloc _).alloc _).alloc _
  · have := NumMap.made (w.alloc (.cells #[.int .i64 0, .slice none 0 0] 71)) 114
    simp only [World.size_alloc] at this
    have e : fsOf (seenTo K S 0) = fun _ => none := by funext kl; unfold fsOf; split <;> rfl
    rw [e]
    exact ((this.alloc _).alloc _).alloc _
  · have := NumMap.made ((w.alloc (.cells #[.int .i64 0, .slice none 0 0] 71)).alloc (.map #[] 0)) 9
    simp only [World.size_alloc] at this
    have e : flOf (seenTo K S 0) = fun _ => none := by funext kl; unfold flOf; split <;> rfl
    rw [e]
    exact (this.alloc _).alloc _
  · have := World.rowIs_made (((w.alloc (.cells #[.int .i64 0, .slice none 0 0] 71)).alloc (.map #[] 0)).alloc (.map #[] 0)) (.int .i32 0) n 21
    simp only [World.size_alloc] at this
    exact (this.alloc _).congr (fun i _ => by simp [ofCell])
  · have := World.rowIs_alloc ((((w.alloc (.cells #[.int .i64 0, .slice none 0 0] 71)).alloc (.map #[] 0)).alloc (.map #[] 0)).alloc (.cells (madeCells #[.int .i32 0] n) 21))
      #[.int .i64 0, .slice (some ⟨w.heap.size + 1 + 1 + 1, 0, none⟩) n n] 71 (itCell (seenTo K S 0).length (w.heap.size + 1 + 1 + 1) n) (fun i hi => by
      match i, hi with
      | 0, _ => rfl
      | 1, _ => rfl)
    simp only [World.size_alloc] at this
    exact this

theorem ofCell_step (K S : Nat → ByteArray) (k j : Nat) {v : Int} (hv : v = numAt K S k) : (if j = k then Value.int .i32 v else ofCell K S k j) = ofCell K S (k + 1) j := by
  unfold ofCell
  by_cases h : j = k
  · subst h; rw [if_pos rfl, if_pos (by omega), hv]
  · rw [if_neg h]
    by_cases h2 : j < k
    · rw [if_pos h2, if_pos (by omega)]
    · rw [if_neg h2, if_neg (by omega)]

theorem ItemsInv.drew {K S n N w k wr} (h : ItemsInv K S n N w k wr) : ItemsInv K S n N w k wr.drew := ⟨h.bel.drew, h.res, h.short, h.long, h.row, h.items⟩

/-- A round that names nothing new. -/
theorem ItemsInv.keep {K S n N w k wr} (h : ItemsInv K S n N w k wr) (hs : seenTo K S (k + 1) = seenTo K S k) {v : Int} (hv : v = numAt K S k) (o : Obj) :
    ItemsInv K S n N w (k + 1) ((wr.setCell ⟨N + 1 + 1 + 1, k, none⟩ (.int .i32 v)).alloc o) := by
  obtain ⟨bel, res, short, long, row, items⟩ := h
  have hsz := items.lt
  refine ⟨(bel.setCell (by simp <;> omega) _).alloc (by simp <;> omega) _, (res.setOther (by simp <;> omega) _).alloc _, ?_, ?_, ?_, ?_⟩
  · rw [hs]; exact ((short.setCell (by simp <;> omega) _).alloc _).mono (by omega)
  · rw [hs]; exact ((long.setCell (by simp <;> omega) _).alloc _).mono (by omega)
  · exact ((row.set k _).alloc _).congr (fun i _ => ofCell_step K S k i hv)
  · rw [hs]; exact (items.setOther (by simp <;> omega) _).alloc _

theorem itCell_set (c : Int) (g n j : Nat) : (if j = 0 then Value.int .i64 (c + 1) else itCell c g n j) = itCell (c + 1) g n j := by
  unfold itCell
  by_cases h : j = 0
  · rw [if_pos h, if_pos h]
  · rw [if_neg h, if_neg h, if_neg h]

/-- A round that names a new item of a short name. -/
theorem ItemsInv.newShort {K S n N w k wr w1} (h : ItemsInv K S n N w k wr) (o : Obj) (hs : seenTo K S (k + 1) = seenTo K S k ++ [(S k).data.toList]) (hl : (S k).data.toList.length ≤ 7) (hn : (S k).data.toList ∉ seenTo K S k) (hv : ((seenTo K S k).length : Int) = numAt K S k)
    {a : Int} (ha : a = (skey (S k).data.toList : Nat))
    (hm : ∀ f', Upd (fsOf (seenTo K S k)) (.int .u64 a) ((seenTo K S k).length : Nat) f' → NumMap w1 114 (N + 1) (k + 1) f') (hg : (wr.alloc o).drew.grownBy w1 (some (N + 1))) :
    ItemsInv K S n N w (k + 1) ((w1.setCell ⟨N + 1 + 1 + 1 + 1, 0, none⟩ (.int .i64 ((seenTo K S k).length + 1))).setCell ⟨N + 1 + 1 + 1, k, none⟩ (.int .i32 ((seenTo K S k).length : Nat))) := by
  obtain ⟨bel, res, short, long, row, items⟩ := h
  subst ha
  have hsz := items.lt
  have e1 : ((seenTo K S (k + 1)).length : Int) = ((seenTo K S k).length : Int) + 1 := by rw [hs]; simp
  refine ⟨((((bel.alloc (by omega) o).drew).grown hg (by simp <;> omega) (fun j hj => by cases hj; omega)).setCell (by simp <;> omega) _).setCell (by simp <;> omega) _, ?_, ?_, ?_, ?_, ?_⟩
  · exact ((rowIs_grown (res.alloc o).drew hg (by simp <;> omega)).setOther (by simp <;> omega) _).setOther (by simp <;> omega) _
  · rw [hs]
    exact ((hm _ (fs_upd _ _ hl hn)).setCell (by simp <;> omega) _).setCell (by simp <;> omega) _
  · rw [hs, fl_snoc_short _ _ hl]
    exact ((((long.alloc o).drew.grown hg (by simp <;> omega)).setCell (by simp <;> omega) _).setCell (by simp <;> omega) _).mono (by omega)
  · exact (((rowIs_grown (row.alloc o).drew hg (by simp <;> omega)).setOther (by simp <;> omega) _).set k _).congr (fun i _ => ofCell_step K S k i hv)
  · rw [e1]
    exact (((rowIs_grown (items.alloc o).drew hg (by simp <;> omega)).set 0 _).setOther (by simp <;> omega) _).congr (fun i _ => itCell_set _ _ _ _)

/-- A round that names a new item of a long name. -/
theorem ItemsInv.newLong {K S n N w k wr w1} (h : ItemsInv K S n N w k wr) (o : Obj) (hs : seenTo K S (k + 1) = seenTo K S k ++ [(S k).data.toList]) (hl : 7 < (S k).data.toList.length) (hn : (S k).data.toList ∉ seenTo K S k) (hv : ((seenTo K S k).length : Int) = numAt K S k)
    (hm : ∀ f', Upd (flOf (seenTo K S k)) (.string (S k).data.toList) ((seenTo K S k).length : Nat) f' → NumMap w1 9 (N + 1 + 1) (k + 1) f') (hg : (wr.alloc o).drew.grownBy w1 (some (N + 1 + 1))) :
    ItemsInv K S n N w (k + 1) ((w1.setCell ⟨N + 1 + 1 + 1 + 1, 0, none⟩ (.int .i64 ((seenTo K S k).length + 1))).setCell ⟨N + 1 + 1 + 1, k, none⟩ (.int .i32 ((seenTo K S k).length : Nat))) := by
  obtain ⟨bel, res, short, long, row, items⟩ := h
  have hsz := items.lt
  have e1 : ((seenTo K S (k + 1)).length : Int) = ((seenTo K S k).length : Int) + 1 := by rw [hs]; simp
  refine ⟨((((bel.alloc (by omega) o).drew).grown hg (by simp <;> omega) (fun j hj => by cases hj; omega)).setCell (by simp <;> omega) _).setCell (by simp <;> omega) _, ?_, ?_, ?_, ?_, ?_⟩
  · exact ((rowIs_grown (res.alloc o).drew hg (by simp <;> omega)).setOther (by simp <;> omega) _).setOther (by simp <;> omega) _
  · rw [hs, fs_snoc_long _ _ hl]
    exact ((((short.alloc o).drew.grown hg (by simp <;> omega)).setCell (by simp <;> omega) _).setCell (by simp <;> omega) _).mono (by omega)
  · rw [hs]
    exact ((hm _ (fl_upd _ _ hl hn)).setCell (by simp <;> omega) _).setCell (by simp <;> omega) _
  · exact (((rowIs_grown (row.alloc o).drew hg (by simp <;> omega)).setOther (by simp <;> omega) _).set k _).congr (fun i _ => ofCell_step K S k i hv)
  · rw [e1]
    exact (((rowIs_grown (items.alloc o).drew hg (by simp <;> omega)).set 0 _).setOther (by simp <;> omega) _).congr (fun i _ => itCell_set _ _ _ _)

theorem keep_miss {w0 w1 : World} {b c : Nat} {u v : Value} (h : w0.cell? ⟨c, 1, none⟩ = some v) (hg : w0.grownBy w1 (some b)) (hne : c ≠ b) : (w1.setCell ⟨c, 0, none⟩ u).cell? ⟨c, 1, none⟩ = some v := by
  rw [World.cell?_setCell_other _ _ _ _ (by simp)]
  exact hg.cell h (by simpa using hne)

theorem keep_miss2 {w0 w1 : World} {b c g k : Nat} {u u2 v : Value} (hg : w0.grownBy w1 (some b)) (h : w0.cell? ⟨c, 1, none⟩ = some v) (hne : c ≠ b) (_hne2 : g ≠ c) : ((w1.setCell ⟨c, 0, none⟩ u).setCell ⟨g, k, none⟩ u2).cell? ⟨c, 1, none⟩ = some v := by
  rw [World.cell?_setCell_other _ _ _ _ (by simp <;> omega)]
  exact keep_miss h hg hne

theorem keep_top {wr w1 : World} {x0 x1 x2 u : Value} {t b c : Nat} (hg : (wr.alloc (.cells #[x0, x1, x2] t)).drew.grownBy w1 (some b)) (hb : b < wr.heap.size) (_hc : c < wr.heap.size) : (w1.setCell ⟨c, 0, none⟩ u).cell? ⟨wr.heap.size, 2, none⟩ = some x2 := by
  rw [World.cell?_setCell_other _ _ _ _ (by simp <;> omega)]
  exact hg.cell (cell_top rfl rfl) (by simp <;> omega)

theorem keep_top2 {wr w1 : World} {x0 x1 x2 u u2 : Value} {t b c g k : Nat} (hg : (wr.alloc (.cells #[x0, x1, x2] t)).drew.grownBy w1 (some b)) (hb : b < wr.heap.size) (hc : c < wr.heap.size) (_hk : g < wr.heap.size) : ((w1.setCell ⟨c, 0, none⟩ u).setCell ⟨g, k, none⟩ u2).cell? ⟨wr.heap.size, 2, none⟩ = some x2 := by
  rw [World.cell?_setCell_other _ _ _ _ (by simp <;> omega)]
  exact keep_top hg hb hc

theorem seen_new (K S : Nat → ByteArray) (k : Nat) (ha : actsB (K k) = true) (hm : (S k).data.toList ∉ seenTo K S k) : seenTo K S (k + 1) = seenTo K S k ++ [(S k).data.toList] := by
  rw [seenTo, if_pos ⟨ha, hm⟩]
theorem num_new (K S : Nat → ByteArray) (k : Nat) (ha : actsB (K k) = true) (hm : (S k).data.toList ∉ seenTo K S k) : ((seenTo K S k).length : Int) = numAt K S k := by
  unfold numAt
  rw [if_pos ha, List.idxOf_eq_length hm]

theorem miss_row {w0 w1 : World} {b c g t n k : Nat} {f : Nat → Value} (h : w0.rowIs g t n f) (hg : w0.grownBy w1 (some b)) (hk : k < n) (hne : g ≠ b) (hne2 : g ≠ c) (u : Value) :
    (w1.setCell ⟨c, 0, none⟩ u).cell? ⟨g, k, none⟩ = some (f k) ∧ (w1.setCell ⟨c, 0, none⟩ u).frozen? ⟨g, k, none⟩ = false ∧ w1.cell? ⟨g, k, none⟩ = some (f k) ∧ w1.frozen? ⟨g, k, none⟩ = false := by
  have h1 := rowIs_grown h hg (by simpa using hne)
  have h2 := h1.setOther (a := ⟨c, 0, none⟩) (by simpa using hne2) u
  exact ⟨h2.cell hk, h2.frozen k, h1.cell hk, h1.frozen k⟩

set_option maxHeartbeats 1000000 in
theorem items30 (ob n : Nat) (K S : Nat → ByteArray) (T : Nat → Int) (w : World) (hn : n ≤ 1024) (hops : w.rowIs ob 76 (n * 3) (opCell K T S)) (hS : ∀ i, i < n → (S i).size ≤ maxLen) :
    Calls Yba.prog 30 #[.slice (some ⟨ob, 0, none⟩) n n] w fun e w' => e = .returned (.agg #[.int .i64 ((seenTo K S n).length : Nat), .slice (some ⟨w.heap.size + 3, 0, none⟩) n n]) ∧ Below w.heap.size w w' ∧
      w'.rowIs (w.heap.size + 3) 21 n (fun j => .int .i32 (numAt K S j)) := by
  have hmm := @run_makeMap Yba.prog
  have hmk := make43 n (by omega)
  have hobl := hops.lt
  go_enter Yba.func30, Yba.ntmps30
  go_wp2
  go_loopw [18] (fun i wr => ∃ k : Nat, k ≤ n ∧ i = .int .i64 k ∧ ItemsInv K S n w.heap.size w k wr) (fun i _ => n - (intOf i).toNat)
  case atStart => exact ⟨0, Nat.zero_le _, rfl, ItemsInv.start K S n w⟩
  case round =>
    obtain ⟨k, hk, rfl, hI⟩ := hrel
    have HI : Hid (ItemsInv K S n w.heap.size w k wr) := hI
    obtain ⟨bel, res, short, long, row, items⟩ := hI
    have i0 := items.cell (i := 0) (by omega)
    have i1 := items.cell (i := 1) (by omega)
    have e0 : itCell (seenTo K S k).length (w.heap.size + 1 + 1 + 1) n 0 = .int .i64 ((seenTo K S k).length : Nat) := rfl
    have e1 : itCell (seenTo K S k).length (w.heap.size + 1 + 1 + 1) n 1 = .slice (some ⟨w.heap.size + 1 + 1 + 1, 0, none⟩) n n := rfl
    rw [e0] at i0
    rw [e1] at i1
    clear e0 e1
    have r0 := res.cell (i := 0) (by omega)
    have r1 := res.cell (i := 1) (by omega)
    have fr0 := res.frozen 0
    have fr1 := res.frozen 1
    by_cases hlt : k < n
    · have o0 : wr.cell? ⟨ob, k * 3, none⟩ = some (.string (K k)) := by
        rw [bel.cell (by exact hobl), hops.cell (by omega), opCell0]
      have o1 : wr.cell? ⟨ob, k * 3 + 1, none⟩ = some (.int .i32 (T k)) := by
        rw [bel.cell (by exact hobl), hops.cell (by omega), opCell1]
      have o2 : wr.cell? ⟨ob, k * 3 + 2, none⟩ = some (.string (S k)) := by
        rw [bel.cell (by exact hobl), hops.cell (by omega), opCell2]
      have hsz := items.lt
      have hsz3 := row.lt
      have hobr : ob < wr.heap.size := by omega
      have rk := row.cell (i := k) hlt
      have frk := row.frozen k
      have fi0 := items.frozen 0
      have hI0 : (0 : Int) ≤ (k : Int) := by omega
      have hI1 : (k : Int) < (n : Int) := by omega
      have hSk := hS k hlt
      clear hmm hmk
      cases hact : actsB (K k)
      · go_wp2_with (first | (go_at_call 38; refine (short_all _ _).mono ?_; rintro e w' ⟨rfl, rfl⟩) | (go_at_call 39; refine (acts_any _ _).mono ?_; rintro e w' ⟨rfl, rfl⟩))
        go_roundw
        case rel =>
          refine ⟨k + 1, by omega, by go_num, ?_⟩
          exact HI.out.keep (by simp [seenTo, hact]) (by simp [numAt, hact]) _
        case measure => simp [intOf]; omega
      · by_cases hsh : (S k).size ≤ 7
        · have hshB : shB (S k) = true := by simp [shB, hsh]
          have hq : Hid (skG (S k) = (skey (S k).data.toList : Nat)) := by show _ = _; simp [skG, hsh]
          have hl7 : (S k).data.toList.length ≤ 7 := by simpa using hsh
          have hq0 : 0 ≤ skG (S k) := by rw [hq.out]; omega
          have hq1 : skG (S k) < 18446744073709551616 := by rw [hq.out]; have := skey_lt _ hl7; omega
          have hfs : (S k).data.toList ∈ seenTo K S k → Hid (fsOf (seenTo K S k) (.int .u64 (skG (S k))) = some (numAt K S k)) := fun hm => by
            show _ = _
            rw [hq.out, fs_at _ _ hl7, if_pos hm]; simp [numAt, hact]
          have hfn : (S k).data.toList ∉ seenTo K S k → Hid (fsOf (seenTo K S k) (.int .u64 (skG (S k))) = none) := fun hm => by
            show _ = _
            rw [hq.out, fs_at _ _ hl7, if_neg hm]
          by_cases hmem : (S k).data.toList ∈ seenTo K S k
          · go_wp2_with (first | (go_at_call 38; refine (short_all _ _).mono ?_; rintro e w' ⟨rfl, rfl⟩) | (go_at_call 39; refine (acts_any _ _).mono ?_; rintro e w' ⟨rfl, rfl⟩))
            go_region_held3 (fun w' => w'.cell? ⟨w.heap.size + 1 + 1 + 1 + 1, 1, none⟩ = some (.slice (some ⟨w.heap.size + 1 + 1 + 1, 0, none⟩) n n)) (go_keep)
              (first | (go_at_call 40; refine (item40_hit _ k (fsOf (seenTo K S k)) _ (numAt K S k) _ _ ?_ hq0 hq1 (hfs hmem).out).mono ?_; exact (short.alloc _).drew; rintro e w' ⟨rfl, rfl⟩))
            go_wp2
            go_roundw
            case rel => exact ⟨k + 1, by omega, by go_num, (HI.out.keep (by simp [seenTo, hmem]) rfl _).drew⟩
            case measure => simp [intOf]; omega
          · have hc := seenTo_le K S k
            go_wp2_with (first | (go_at_call 38; refine (short_all _ _).mono ?_; rintro e w' ⟨rfl, rfl⟩) | (go_at_call 39; refine (acts_any _ _).mono ?_; rintro e w' ⟨rfl, rfl⟩))
            go_region_held3 (fun w' => w'.cell? ⟨w.heap.size + 1 + 1 + 1 + 1, 1, none⟩ = some (.slice (some ⟨w.heap.size + 1 + 1 + 1, 0, none⟩) n n))
              (first | (exact keep_miss (by assumption) hg1 (by omega)) | go_keep)
              (first | (go_at_call 40; refine (item40_miss _ k (fsOf (seenTo K S k)) _ ((seenTo K S k).length : Nat) _ _ ?_ hq0 hq1 (hfn hmem).out (by omega) (by omega) (by omega) ?_ ?_ (by omega)).mono ?_; exact (short.alloc _).drew; exact (items.alloc _).drew.cell (i := 0) (by omega); exact (items.alloc _).drew.frozen 0; rintro e w' ⟨rfl, w1, hm1, hg1, rfl⟩; obtain ⟨x1, x2, x3, x4⟩ := miss_row (c := w.heap.size + 1 + 1 + 1 + 1) (row.alloc _).drew hg1 hlt (by omega) (by omega) (.int .i64 (((seenTo K S k).length : Nat) + 1)); have Hm1 : Hid _ := hm1; clear hm1))
            go_wp2
            go_roundw
            case rel => exact ⟨k + 1, by omega, by go_num, HI.out.newShort _ (seen_new K S k hact hmem) hl7 hmem (num_new K S k hact hmem) hq.out Hm1.out hg1⟩
            case measure => simp [intOf]; omega
        · have hshB : shB (S k) = false := by simp [shB]; omega
          have hl7 : 7 < (S k).data.toList.length := by have : (S k).data.toList.length = (S k).size := by simp
                                                        omega
          have hfs : (S k).data.toList ∈ seenTo K S k → Hid (flOf (seenTo K S k) (.string (S k).data.toList) = some (numAt K S k)) := fun hm => by
            show _ = _
            rw [fl_at _ _ hl7, if_pos hm]; simp [numAt, hact]
          have hfn : (S k).data.toList ∉ seenTo K S k → Hid (flOf (seenTo K S k) (.string (S k).data.toList) = none) := fun hm => by
            show _ = _
            rw [fl_at _ _ hl7, if_neg hm]
          by_cases hmem : (S k).data.toList ∈ seenTo K S k
          · go_wp2_with (first | (go_at_call 38; refine (short_all _ _).mono ?_; rintro e w' ⟨rfl, rfl⟩) | (go_at_call 39; refine (acts_any _ _).mono ?_; rintro e w' ⟨rfl, rfl⟩))
            go_region_held3 (fun w' => w'.cell? ⟨w.heap.size + 1 + 1 + 1 + 1, 1, none⟩ = some (.slice (some ⟨w.heap.size + 1 + 1 + 1, 0, none⟩) n n) ∧ w'.cell? ⟨wr.heap.size, 2, none⟩ = some (.string (S k)))
              (first | (refine ⟨?_, ?_⟩; go_keep; (refine cell_top ?_ rfl; simp; done)) | go_keep)
              (first | (go_at_call 41; refine (item41_hit _ k (flOf (seenTo K S k)) _ (numAt K S k) _ _ ?_ hSk (hfs hmem).out).mono ?_; exact (long.alloc _).drew; rintro e w' ⟨rfl, rfl⟩))
            go_wp2
            go_roundw
            case rel => exact ⟨k + 1, by omega, by go_num, (HI.out.keep (by simp [seenTo, hmem]) rfl _).drew⟩
            case measure => simp [intOf]; omega
          · have hc := seenTo_le K S k
            go_wp2_with (first | (go_at_call 38; refine (short_all _ _).mono ?_; rintro e w' ⟨rfl, rfl⟩) | (go_at_call 39; refine (acts_any _ _).mono ?_; rintro e w' ⟨rfl, rfl⟩))
            go_region_held3 (fun w' => w'.cell? ⟨w.heap.size + 1 + 1 + 1 + 1, 1, none⟩ = some (.slice (some ⟨w.heap.size + 1 + 1 + 1, 0, none⟩) n n) ∧ w'.cell? ⟨wr.heap.size, 2, none⟩ = some (.string (S k)))
              (first | (refine ⟨keep_miss (b := w.heap.size + 1 + 1) (w0 := (wr.alloc (.cells #[.string (K k), .int .i32 (T k), .string (S k)] 76)).drew) ?_ ?_ ?_, ?_⟩; (exact ((items.alloc _).drew.cell (i := 1) (by omega))); (exact hg1); (omega); (exact keep_top hg1 (by omega) (by omega))) | (refine ⟨keep_miss2 hg1 ?_ ?_ ?_, keep_top2 hg1 ?_ ?_ ?_⟩; (exact ((items.alloc _).drew.cell (i := 1) (by omega))); (omega); (omega); (omega); (omega); (omega)) | go_keep)
              (first | (go_at_call 41; refine (item41_miss _ k (flOf (seenTo K S k)) _ ((seenTo K S k).length : Nat) _ _ ?_ hSk (hfn hmem).out (by omega) (by omega) (by omega) ?_ ?_ (by omega)).mono ?_; exact (long.alloc _).drew; exact (items.alloc _).drew.cell (i := 0) (by omega); exact (items.alloc _).drew.frozen 0; rintro e w' ⟨rfl, w1, hm1, hg1, rfl⟩; obtain ⟨x1, x2, x3, x4⟩ := miss_row (c := w.heap.size + 1 + 1 + 1 + 1) (row.alloc _).drew hg1 hlt (by omega) (by omega) (.int .i64 (((seenTo K S k).length : Nat) + 1)); have Hm1 : Hid _ := hm1; clear hm1))
            go_wp2
            go_roundw
            case rel => exact ⟨k + 1, by omega, by go_num, HI.out.newLong _ (seen_new K S k hact hmem) hl7 hmem (num_new K S k hact hmem) Hm1.out hg1⟩
            case measure => simp [intOf]; omega
    · clear hmm hmk
      go_wp2
      have : k = n := by omega
      subst this
      have hr := (res.set 0 (.int .i64 ((seenTo K S k).length : Nat))).set 1 (.slice (some ⟨w.heap.size + 1 + 1 + 1, 0, none⟩) k k)
      refine bodyPost_ret (ret71 Yba.results30 rfl hr) rfl ⟨rfl, (bel.setCell (Nat.le_refl _) _).setCell (Nat.le_refl _) _, ?_⟩
      exact ((row.setOther (by simp; omega) _).setOther (by simp; omega) _).congr (fun i hi => by simp [ofCell, hi])

end Go.Proofs.Ybulkbik
