import Derived.Test.YbulkbikReads
import Derived.Test.YbulkbikRange
/-! What the iterator of 'reads' keeps in memory, and the plain steps of its loop. -/
namespace Go.Proofs.Ybulkbik
attribute [local go_sem ↓] Go.wp_at_zero Go.wp_at_succ
open Go.RowKit Go.Maps

theorem readsB_prefix (o : BOps) {i m : Nat} (h : i ≤ m) : ∃ r, readsB o m = readsB o i ++ r := by
  induction m with
  | zero => exact ⟨[], by rw [show i = 0 by omega]; simp⟩
  | succ m ih =>
    by_cases e : i = m + 1
    · exact ⟨[], by rw [e]; simp⟩
    · obtain ⟨r, hr⟩ := ih (by omega)
      cases hR : o.isR m with
      | true => exact ⟨r ++ [m], by rw [readsB_succ_yes o m hR, hr, List.append_assoc]⟩
      | false => exact ⟨r, by rw [readsB_succ_no o m hR, hr]⟩

theorem reads_at (o : BOps) {i n : Nat} (hi : i < n) (hR : o.isR i = true) : (readsB o n)[(readsB o i).length]? = some i := by
  obtain ⟨r, hr⟩ := readsB_prefix o (show i + 1 ≤ n from hi)
  rw [hr, readsB_succ_yes o i hR, List.append_assoc, List.getElem?_append_right (Nat.le_refl _)]
  simp

theorem acts_w {s : ByteArray} (h : (s.toList == [119]) = true) : actsB s = true := by
  have : s.toList = [119] := by simpa using h
  unfold actsB; rw [this]; rfl
theorem acts_r {s : ByteArray} (h : (s.toList == [114]) = true) : actsB s = true := by
  have : s.toList = [114] := by simpa using h
  unfold actsB; rw [this]; rfl

theorem seenTo_prefix (K S : Nat → ByteArray) {i m : Nat} (h : i ≤ m) : ∃ r, seenTo K S m = seenTo K S i ++ r := by
  induction m with
  | zero => exact ⟨[], by rw [show i = 0 by omega]; simp⟩
  | succ m ih =>
    by_cases e : i = m + 1
    · exact ⟨[], by rw [e]; simp⟩
    · obtain ⟨r, hr⟩ := ih (by omega)
      by_cases h : actsB (K m) = true ∧ (S m).data.toList ∉ seenTo K S m
      · exact ⟨r ++ [(S m).data.toList], by rw [seenTo, if_pos h, hr, List.append_assoc]⟩
      · exact ⟨r, by rw [seenTo, if_neg h, hr]⟩

theorem seenTo_mem (K S : Nat → ByteArray) {i n : Nat} (hi : i < n) (ha : actsB (K i) = true) : (S i).data.toList ∈ seenTo K S n := by
  obtain ⟨r, hr⟩ := seenTo_prefix K S (show i + 1 ≤ n from hi)
  rw [hr]
  refine List.mem_append_left _ ?_
  unfold seenTo
  by_cases h : (S i).data.toList ∈ seenTo K S i
  · rw [if_neg (by simp [h])]; exact h
  · rw [if_pos ⟨ha, h⟩]; simp

theorem numAt_eq (K S : Nat → ByteArray) {i n : Nat} (hi : i < n) (ha : actsB (K i) = true) : numAt K S i = ((seenTo K S n).idxOf (S i).data.toList : Nat) := by
  obtain ⟨r, hr⟩ := seenTo_prefix K S (show i + 1 ≤ n from hi)
  unfold numAt
  rw [if_pos ha, hr]
  congr 1
  by_cases h : (S i).data.toList ∈ seenTo K S i
  · have e : seenTo K S (i + 1) = seenTo K S i := by
      rw [seenTo, if_neg (by simp [h])]
    rw [e, List.idxOf_append, if_pos h]
  · have e : seenTo K S (i + 1) = seenTo K S i ++ [(S i).data.toList] := by
      rw [seenTo, if_pos ⟨ha, h⟩]
    rw [e, List.idxOf_append, if_pos (by simp), List.idxOf_append, if_neg h]
    rw [List.idxOf_eq_length h]
    simp

theorem idxOf_inj {l : List (List UInt8)} {a b : List UInt8} (ha : a ∈ l) (h : l.idxOf a = l.idxOf b) : a = b := by
  have h1 := List.idxOf_lt_length_of_mem ha
  have e1 : l[l.idxOf a]'h1 = a := List.getElem_idxOf h1
  have h2 : l.idxOf b < l.length := by rw [← h]; exact h1
  have e2 : l[l.idxOf b]'h2 = b := List.getElem_idxOf h2
  rw [← e1, ← e2]
  congr 1

/-- What the iterator has noted at operation i: the last write of each item that may still count. -/
structure LastAt (K S : Nat → ByteArray) (T : Nat → Int) (n i : Nat) (atf txf ef : Nat → Int) : Prop where
  link : ∀ s, s ∈ seenTo K S n → LinkB (bops K S T n) i s (atf ((seenTo K S n).idxOf s)) i
  tx : ∀ q, q < (seenTo K S n).length → (atf q = -1 ∧ txf q = -1) ∨ ∃ m : Nat, m < i ∧ atf q = m ∧ txf q = (rkOf T n m : Nat)
  earl : ∀ j, j < i → ((K j).toList == [119]) = true → LinkB (bops K S T n) j (S j).data.toList (ef j) j

theorem LinkB.next {o : BOps} {i : Nat} {s : List UInt8} {a : Int} (h : LinkB o i s a i) (hn : ¬ (o.isW i = true ∧ o.S i = s)) : LinkB o (i + 1) s a (i + 1) :=
  (h.grow hn).mono (Nat.le_succ _)

theorem LastAt.zero (K S : Nat → ByteArray) (T : Nat → Int) (n : Nat) (ef : Nat → Int) : LastAt K S T n 0 (fun _ => -1) (fun _ => -1) ef :=
  ⟨fun _ _ => ⟨.inl rfl, fun _ hj => absurd hj (Nat.not_lt_zero _)⟩, fun _ _ => .inl ⟨rfl, rfl⟩, fun _ hj => absurd hj (Nat.not_lt_zero _)⟩

theorem LastAt.other {K S : Nat → ByteArray} {T : Nat → Int} {n i : Nat} {atf txf ef : Nat → Int} (h : LastAt K S T n i atf txf ef) (hW : ((K i).toList == [119]) = false) : LastAt K S T n (i + 1) atf txf ef := by
  refine ⟨fun s hs => (h.link s hs).next (fun e => ?_), fun q hq => ?_, fun j hj hw => ?_⟩
  · have : ((K i).toList == [119]) = true := e.1
    rw [hW] at this; cases this
  · rcases h.tx q hq with e | ⟨m, h1, h2⟩
    · exact .inl e
    · exact .inr ⟨m, by omega, h2⟩
  · by_cases e : j = i
    · subst e; rw [hW] at hw; cases hw
    · exact h.earl j (by omega) hw

theorem LastAt.write {K S : Nat → ByteArray} {T : Nat → Int} {n i : Nat} {atf txf ef : Nat → Int} (h : LastAt K S T n i atf txf ef) (hi : i < n) (hW : ((K i).toList == [119]) = true) {q : Nat} (hq : q = (seenTo K S n).idxOf (S i).data.toList) :
    LastAt K S T n (i + 1) (fun j => if j = q then (i : Int) else atf j) (fun j => if j = q then ((rkOf T n i : Nat) : Int) else txf j) (fun j => if j = i then atf q else ef j) := by
  have hmem := seenTo_mem K S hi (acts_w hW)
  refine ⟨fun s hs => ?_, fun j hj => ?_, fun j hj hw => ?_⟩
  · by_cases e : s = (S i).data.toList
    · subst e
      rw [← hq]
      show LinkB _ _ _ (if q = q then (i : Int) else atf q) _
      rw [if_pos rfl]
      exact LinkB.write (show (bops K S T n).isW i = true from hW) rfl
    · have hne : (seenTo K S n).idxOf s ≠ q := fun e' => e (idxOf_inj hs (e'.trans hq))
      show LinkB _ _ _ (if (seenTo K S n).idxOf s = q then (i : Int) else atf ((seenTo K S n).idxOf s)) _
      rw [if_neg hne]
      exact (h.link s hs).next (fun e' => e (e'.2.symm))
  · by_cases e : j = q
    · right
      refine ⟨i, by omega, ?_, ?_⟩
      · show (if j = q then (i : Int) else atf j) = _
        rw [if_pos e]
      · show (if j = q then ((rkOf T n i : Nat) : Int) else txf j) = _
        rw [if_pos e]
    · simp only [if_neg e]
      rcases h.tx j hj with e | ⟨m, h1, h2⟩
      · exact .inl e
      · exact .inr ⟨m, by omega, h2⟩
  · by_cases e : j = i
    · subst e
      show LinkB _ _ _ (if j = j then atf q else ef j) _
      rw [if_pos rfl, hq]
      exact h.link _ hmem
    · show LinkB _ _ _ (if j = i then atf q else ef j) _
      rw [if_neg e]
      exact h.earl j (by omega) hw

theorem LastAt.read {K S : Nat → ByteArray} {T : Nat → Int} {n i : Nat} {atf txf ef : Nat → Int} (h : LastAt K S T n i atf txf ef) (hW : ((K i).toList == [119]) = false) {q : Nat} (hq : q = (seenTo K S n).idxOf (S i).data.toList)
    {a x : Int} (hl : LinkB (bops K S T n) i (S i).data.toList a i) (hx : (a = -1 ∧ x = -1) ∨ ∃ m : Nat, m < i ∧ a = m ∧ x = (rkOf T n m : Nat)) :
    LastAt K S T n (i + 1) (fun j => if j = q then a else atf j) (fun j => if j = q then x else txf j) ef := by
  have h2 : LastAt K S T n i (fun j => if j = q then a else atf j) (fun j => if j = q then x else txf j) ef := by
    refine ⟨fun s hs => ?_, fun j hj => ?_, h.earl⟩
    · by_cases e : s = (S i).data.toList
      · subst e
        rw [← hq]
        show LinkB _ _ _ (if q = q then a else atf q) _
        rw [if_pos rfl]
        exact hl
      · have hne : (seenTo K S n).idxOf s ≠ q := fun e' => e (idxOf_inj hs (e'.trans hq))
        show LinkB _ _ _ (if (seenTo K S n).idxOf s = q then a else atf ((seenTo K S n).idxOf s)) _
        rw [if_neg hne]
        exact h.link s hs
    · by_cases e : j = q
      · simp only [if_pos e]; exact hx
      · simp only [if_neg e]; exact h.tx j hj
  exact h2.other hW

def lastCell (atf txf : Nat → Int) (j : Nat) : Value := .int .i32 (if j % 2 = 0 then atf (j / 2) else txf (j / 2))

theorem lastCell0 (atf txf : Nat → Int) (q : Nat) : lastCell atf txf (q * 2) = .int .i32 (atf q) := by
  simp [lastCell]
theorem lastCell1 (atf txf : Nat → Int) (q : Nat) : lastCell atf txf (q * 2 + 1) = .int .i32 (txf q) := by
  unfold lastCell
  rw [if_neg (by omega), show (q * 2 + 1) / 2 = q by omega]

/-- The iterator's cells. B: the block of its copy of the items' numbers; what it writes lies behind. -/
structure ItMem (K S : Nat → ByteArray) (T : Nat → Int) (n ob ib ofb eb g0 bx nb g pb B : Nat) (f : Nat → Value) (atf txf ef : Nat → Int) (W : World) : Prop where
  box : W.rowIs bx 32 1 (fun _ => .pointer (some ⟨ib, 0, none⟩))
  inp : W.rowIs ib 69 5 (fun j => if j = 4 then .pointer (some ⟨pb, 0, none⟩) else inpCell ob n g0 (txsTo T n).length ofb eb none j)
  of : W.rowIs ofb 21 n (fun j => .int .i32 (rkOf T n j : Nat))
  ends : W.rowIs eb 111 ((txsTo T n).length * 3) f
  ops : W.rowIs ob 76 (n * 3) (opCell K T S)
  non : W.rowIs nb 92 2 (fun _ => .int .i32 (-1))
  its : W.rowIs B 71 2 (itCell (seenTo K S n).length g n)
  num : W.rowIs g 21 n (fun j => .int .i32 (numAt K S j))
  last : W.rowIs (B + 1) 92 ((seenTo K S n).length * 2) (lastCell atf txf)
  earl : W.rowIs (B + 1 + 1) 21 n (fun j => .int .i32 (ef j))

/-- The blocks of them. -/
def itBlock (ob ib ofb eb bx nb g B b : Nat) : Prop := b = ob ∨ b = ib ∨ b = ofb ∨ b = eb ∨ b = bx ∨ b = nb ∨ b = g ∨ b = B ∨ b = B + 1 ∨ b = B + 1 + 1

theorem ItMem.lt {K S T n ob ib ofb eb g0 bx nb g pb B f atf txf ef W} (h : ItMem K S T n ob ib ofb eb g0 bx nb g pb B f atf txf ef W) : ∀ b, itBlock ob ib ofb eb bx nb g B b → b < W.heap.size := by
  rintro b (e | e | e | e | e | e | e | e | e | e) <;> subst e
  · exact h.ops.lt
  · exact h.inp.lt
  · exact h.of.lt
  · exact h.ends.lt
  · exact h.box.lt
  · exact h.non.lt
  · exact h.num.lt
  · exact h.its.lt
  · exact h.last.lt
  · exact h.earl.lt

theorem ItMem.same {K S T n ob ib ofb eb g0 bx nb g pb B f atf txf ef W W'} (h : ItMem K S T n ob ib ofb eb g0 bx nb g pb B f atf txf ef W) (hb : ∀ b, itBlock ob ib ofb eb bx nb g B b → W'.heap[b]? = W.heap[b]?) : ItMem K S T n ob ib ofb eb g0 bx nb g pb B f atf txf ef W' :=
  ⟨h.box.of_block (hb _ (by simp [itBlock])), h.inp.of_block (hb _ (by simp [itBlock])), h.of.of_block (hb _ (by simp [itBlock])), h.ends.of_block (hb _ (by simp [itBlock])), h.ops.of_block (hb _ (by simp [itBlock])), h.non.of_block (hb _ (by simp [itBlock])),
    h.its.of_block (hb _ (by simp [itBlock])), h.num.of_block (hb _ (by simp [itBlock])), h.last.of_block (hb _ (by simp [itBlock])), h.earl.of_block (hb _ (by simp [itBlock]))⟩

theorem ItMem.alloc {K S T n ob ib ofb eb g0 bx nb g pb B f atf txf ef W} (h : ItMem K S T n ob ib ofb eb g0 bx nb g pb B f atf txf ef W) (o : Obj) : ItMem K S T n ob ib ofb eb g0 bx nb g pb B f atf txf ef (W.alloc o) :=
  h.same (fun b hb => heap_alloc_old W o (h.lt b hb))

theorem ItMem.setOther {K S T n ob ib ofb eb g0 bx nb g pb B f atf txf ef W} (h : ItMem K S T n ob ib ofb eb g0 bx nb g pb B f atf txf ef W) {a : Addr} (ha : ¬ itBlock ob ib ofb eb bx nb g B a.block) (v : Value) : ItMem K S T n ob ib ofb eb g0 bx nb g pb B f atf txf ef (W.setCell a v) :=
  h.same (fun _ hb => Below.heap_setCell _ _ _ _ (fun e => ha (e ▸ hb)))

theorem ItMem.drewN {K S T n ob ib ofb eb g0 bx nb g pb B f atf txf ef W} (h : ItMem K S T n ob ib ofb eb g0 bx nb g pb B f atf txf ef W) (q : Nat) : ItMem K S T n ob ib ofb eb g0 bx nb g pb B f atf txf ef (W.drewN q) :=
  h.same (fun _ _ => rfl)

/-- The blocks that are only read lie below B. -/
def itLow (ob ib ofb eb bx nb g B : Nat) : Prop := ob < B ∧ ib < B ∧ ofb < B ∧ eb < B ∧ bx < B ∧ nb < B ∧ g < B

theorem lastCell_set (atf txf : Nat → Int) (q j : Nat) (a x : Int) : (if j = q * 2 + 1 then Value.int .i32 x else if j = q * 2 then .int .i32 a else lastCell atf txf j) = lastCell (fun j => if j = q then a else atf j) (fun j => if j = q then x else txf j) j := by
  show (if j = q * 2 + 1 then Value.int .i32 x else if j = q * 2 then .int .i32 a else .int .i32 (if j % 2 = 0 then atf (j / 2) else txf (j / 2))) = Value.int .i32 (if j % 2 = 0 then (if j / 2 = q then a else atf (j / 2)) else (if j / 2 = q then x else txf (j / 2)))
  by_cases h1 : j = q * 2 + 1
  · rw [if_pos h1, if_neg (by omega), if_pos (by omega)]
  · rw [if_neg h1]
    by_cases h2 : j = q * 2
    · rw [if_pos h2, if_pos (by omega), if_pos (by omega)]
    · rw [if_neg h2]
      by_cases h3 : j % 2 = 0
      · rw [if_pos h3, if_pos h3, if_neg (by omega)]
      · rw [if_neg h3, if_neg h3, if_neg (by omega)]

theorem ItMem.setLast {K S T n ob ib ofb eb g0 bx nb g pb B f atf txf ef W} (h : ItMem K S T n ob ib ofb eb g0 bx nb g pb B f atf txf ef W) (hl : itLow ob ib ofb eb bx nb g B) (q : Nat) (a x : Int) :
    ItMem K S T n ob ib ofb eb g0 bx nb g pb B f (fun j => if j = q then a else atf j) (fun j => if j = q then x else txf j) ef ((W.setCell ⟨B + 1, q * 2, none⟩ (.int .i32 a)).setCell ⟨B + 1, q * 2 + 1, none⟩ (.int .i32 x)) := by
  obtain ⟨h1, h2, h3, h4, h5, h6, h7⟩ := hl
  refine ⟨(h.box.setOther (by simp; omega) _).setOther (by simp; omega) _, (h.inp.setOther (by simp; omega) _).setOther (by simp; omega) _, (h.of.setOther (by simp; omega) _).setOther (by simp; omega) _, (h.ends.setOther (by simp; omega) _).setOther (by simp; omega) _,
    (h.ops.setOther (by simp; omega) _).setOther (by simp; omega) _, (h.non.setOther (by simp; omega) _).setOther (by simp; omega) _, (h.its.setOther (by simp) _).setOther (by simp) _, (h.num.setOther (by simp; omega) _).setOther (by simp; omega) _, ?_, (h.earl.setOther (by simp) _).setOther (by simp) _⟩
  exact ((h.last.set _ _).set _ _).congr (fun j _ => lastCell_set atf txf q j a x)

theorem ItMem.setEarl {K S T n ob ib ofb eb g0 bx nb g pb B f atf txf ef W} (h : ItMem K S T n ob ib ofb eb g0 bx nb g pb B f atf txf ef W) (hl : itLow ob ib ofb eb bx nb g B) (i : Nat) (a : Int) :
    ItMem K S T n ob ib ofb eb g0 bx nb g pb B f atf txf (fun j => if j = i then a else ef j) (W.setCell ⟨B + 1 + 1, i, none⟩ (.int .i32 a)) := by
  obtain ⟨h1, h2, h3, h4, h5, h6, h7⟩ := hl
  refine ⟨h.box.setOther (by simp; omega) _, h.inp.setOther (by simp; omega) _, h.of.setOther (by simp; omega) _, h.ends.setOther (by simp; omega) _, h.ops.setOther (by simp; omega) _, h.non.setOther (by simp; omega) _, h.its.setOther (by simp; omega) _, h.num.setOther (by simp; omega) _, h.last.setOther (by simp) _, ?_⟩
  exact (h.earl.set i _).congr (fun j _ => by
    show (if j = i then Value.int .i32 a else .int .i32 (ef j)) = .int .i32 (if j = i then a else ef j)
    split <;> rfl)

theorem info92 : (Yba.prog.info? 92).map (fun i => (i.zero, i.size, i.bytes)) = some (some (.agg #[.int .i32 0, .int .i32 0]), 2, 8) := by kernel_rfl

theorem make93 (n : Nat) (hn : n ≤ 1000000) (w : World) : (Instr.makeSlice 93 (.int .i64 (n : Int)) (.int .i64 (n : Int))).run Yba.prog w =
    .ok (.slice (some ⟨w.heap.size, 0, none⟩) n n) (w.alloc (.cells (madeCells #[.int .i32 0, .int .i32 0] (n * 2)) 92)) := by
  obtain ⟨i, hi, hz0, hz1, hz2⟩ := info_parts info92
  have := run_make (P := Yba.prog) w 93 92 i _ Yba.underlying93 hi hz0 .i64 .i64 n n (by omega) (Int.le_refl _) (by rw [hz2]; omega) (by omega)
  rw [hz1] at this
  simpa [Value.cells] using this

end Go.Proofs.Ybulkbik
