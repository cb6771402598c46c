import Derived.Test.YbulkbikEnds
namespace Go.Proofs.Ybulkbik
attribute [local go_sem ↓] Go.wp_at_zero Go.wp_at_succ
open Go.RowKit Go.Maps

/-- The number that 'numberTransactions' gives to operation j's transaction. -/
def rkOf (T : Nat → Int) (n j : Nat) : Nat := (txsTo T n).countP (fun v => decide (v < T j))

theorem countP_lt_of {l : List Int} {p : Int → Bool} {x : Int} (hx : x ∈ l) (hp : p x = false) : l.countP p < l.length := by
  have h1 := List.countP_le_length (p := p) (l := l)
  by_cases e : l.countP p = l.length
  · rw [List.countP_eq_length] at e
    rw [e x hx] at hp
    cases hp
  · omega

theorem rkOf_lt (T : Nat → Int) {n i : Nat} (hi : i < n) : rkOf T n i < (txsTo T n).length :=
  countP_lt_of ((mem_txsTo T n (T i)).2 ⟨i, hi, rfl⟩) (by simp)

theorem countP_strict {l : List Int} {a b : Int} (hab : a < b) (ha : a ∈ l) : l.countP (fun v => decide (v < a)) < l.countP (fun v => decide (v < b)) := by
  induction l with
  | nil => cases ha
  | cons x r ih =>
    have hle : r.countP (fun v => decide (v < a)) ≤ r.countP (fun v => decide (v < b)) := by
      apply List.countP_mono_left
      intro y _ hy
      simp at hy ⊢
      omega
    rw [List.countP_cons, List.countP_cons]
    rcases List.mem_cons.1 ha with e | h
    · subst e
      simp [hab]
      omega
    · have := ih h
      by_cases h1 : x < a
      · simp [h1, show x < b by omega]; omega
      · by_cases h2 : x < b
        · simp [h1, h2]; omega
        · simp [h1, h2]; omega

theorem rkOf_inj (T : Nat → Int) {n i j : Nat} (hi : i < n) (hj : j < n) (e : rkOf T n i = rkOf T n j) : T i = T j := by
  have mi := (mem_txsTo T n (T i)).2 ⟨i, hi, rfl⟩
  have mj := (mem_txsTo T n (T j)).2 ⟨j, hj, rfl⟩
  unfold rkOf at e
  by_cases h1 : T i < T j
  · have := countP_strict h1 mi; omega
  · by_cases h2 : T j < T i
    · have := countP_strict h2 mj; omega
    · omega

/-- The cells of the input that 'newInput' lays. -/
def inpCell (ob n g m ofb eb : Nat) (p : Option Addr) (j : Nat) : Value :=
  if j = 0 then .slice (some ⟨ob, 0, none⟩) n n else if j = 1 then .slice (some ⟨g, 0, none⟩) m m else if j = 2 then .slice (some ⟨ofb, 0, none⟩) n n
  else if j = 3 then .slice (some ⟨eb, 0, none⟩) m m else .pointer p

/-- What 'newInput' leaves: the input at ib. -/
structure InpAt (K : Nat → ByteArray) (T : Nat → Int) (n ob ib g ofb eb : Nat) (p : Option Addr) (f : Nat → Value) (w : World) : Prop where
  inp : w.rowIs ib 69 5 (inpCell ob n g (txsTo T n).length ofb eb p)
  of : w.rowIs ofb 21 n (fun j => .int .i32 (rkOf T n j : Nat))
  ends : w.rowIs eb 111 ((txsTo T n).length * 3) f
  ab : ∀ i, i < n → f (rkOf T n i * 3 + 1) = .int .i64 (abTo K T n (T i))

set_option maxRecDepth 100000 in
set_option maxHeartbeats 1000000 in
theorem newInput15 (ob n : Nat) (K S : Nat → ByteArray) (T : Nat → Int) (w : World) (hn : n ≤ 256) (hops : w.rowIs ob 76 (n * 3) (opCell K T S)) (hT : ∀ i, i < n → -2147483648 ≤ T i ∧ T i ≤ 2147483647) :
    Calls Yba.prog 15 #[.slice (some ⟨ob, 0, none⟩) n n] w fun e w' => ∃ ib g ofb eb f, e = .returned (.pointer (some ⟨ib, 0, none⟩)) ∧ Below w.heap.size w w' ∧ InpAt K T n ob ib g ofb eb none f w' ∧ w.heap.size ≤ ib ∧ w.heap.size ≤ ofb ∧ w.heap.size ≤ eb ∧ ib ≠ ofb ∧ ib ≠ eb := by
  have hobl := hops.lt
  have hml := txsTo_le T n
  go_enter Yba.func15, Yba.ntmps15
  go_wp2_with fail
  refine (tx25 ob n K S T _ hn hops hT).mono ?_
  rintro e w1 ⟨g, rfl, hb1, hr1⟩
  have hl1 := hr1.lt
  have ho1 := hops.of_block (hb1.block _ hobl)
  go_wp2_with fail
  go_region_held3 (fun w' => w'.cell? ⟨w1.heap.size, 0, none⟩ = some (.slice (some ⟨g, 0, none⟩) (txsTo T n).length (txsTo T n).length) ∧ w'.cell? ⟨w1.heap.size, 1, none⟩ = some (.slice (some ⟨w.heap.size + 3, 0, none⟩) n n))
    (first | (go_keep; done) | (refine ⟨(hb2.cell (by simp)).trans ?_, (hb2.cell (by simp)).trans ?_⟩ <;> (refine cell_top ?_ rfl; rfl)))
    (first | (go_at_call 26; refine (ends26 ob (w.heap.size + 3) n (txsTo T n).length _ _ K S T (rkOf T n) _ hn (by omega) ?_ ?_ (fun i hi => rkOf_lt T hi) (fun i j hi hj => rkOf_inj T hi hj) (fun i j hi hj e => by unfold rkOf; rw [e])).mono ?_; exact (ho1.alloc _).drew; exact (hr1.alloc _).drew; rintro e w2 ⟨rfl, hb2, f, hf2, hab2⟩; simp only [World.size_drew, World.size_alloc] at hb2 hf2; have hl2 : w1.heap.size < w2.heap.size := by (have := hb2.size; simp at this; omega)))
  go_wp2_with fail
  go_ret
  have hl3 := hf2.lt
  have hs1 := hb1.size
  refine ⟨w2.heap.size, g, w.heap.size + 3, w1.heap.size + 1 + 1, f, rfl, ?_, ⟨?_, ?_, ?_, hab2⟩, by omega, by omega, by omega, by omega, by omega⟩
  · have h1 : Below w.heap.size w (w1.alloc (.cells #[.slice (some ⟨g, 0, none⟩) (txsTo T n).length (txsTo T n).length, .slice (some ⟨w.heap.size + 3, 0, none⟩) n n] 64)).drew := (hb1.alloc (by omega) _).drew
    exact (h1.trans (hb2.mono (by omega))).alloc (by omega) _
  · exact World.rowIs_alloc w2 #[.slice (some ⟨ob, 0, none⟩) n n, .slice (some ⟨g, 0, none⟩) (txsTo T n).length (txsTo T n).length, .slice (some ⟨w.heap.size + 3, 0, none⟩) n n, .slice (some ⟨w1.heap.size + 1 + 1, 0, none⟩) (txsTo T n).length (txsTo T n).length, .pointer none] 69 _ (fun i hi => by
      match i, hi with
      | 0, _ => rfl
      | 1, _ => rfl
      | 2, _ => rfl
      | 3, _ => rfl
      | 4, _ => rfl)
  · exact (((hr1.alloc _).drew).of_block (hb2.block _ (by omega))).alloc _
  · exact hf2.alloc _

end Go.Proofs.Ybulkbik
