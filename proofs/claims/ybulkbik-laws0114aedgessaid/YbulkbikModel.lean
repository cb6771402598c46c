import Derived.Test.YbulkbikInput
namespace Go.Proofs.Ybulkbik
attribute [local go_sem ↓] Go.wp_at_zero Go.wp_at_succ
open Go.RowKit Go.Maps

/-- The operations, as the plain law sees them. -/
def bops (K S : Nat → ByteArray) (T : Nat → Int) (n : Nat) : BOps :=
  { n := n, isW := fun k => (K k).toList == [119], isR := fun k => (K k).toList == [114], isA := fun k => (K k).toList == [97], T := T, S := fun k => (S k).data.toList }

theorem info4 : (Yba.prog.info? 4).map (fun i => (i.zero, i.size, i.bytes)) = some (some (.bool false), 1, 1) := by kernel_rfl
theorem info3 : (Yba.prog.info? 3).map (fun i => (i.zero, i.size, i.bytes)) = some (some (.int .i64 0), 1, 8) := by kernel_rfl

theorem make95 (n : Nat) (hn : n ≤ 1000000) (w : World) : (Instr.makeSlice 95 (.int .i64 (n : Int)) (.int .i64 (n : Int))).run Yba.prog w =
    .ok (.slice (some ⟨w.heap.size, 0, none⟩) n n) (w.alloc (.cells (madeCells #[.bool false] n) 4)) :=
  run_make_row' 95 4 (.bool false) 1 Yba.underlying95 info4 rfl .i64 .i64 n (by omega) (by omega) w

def firCell (T : Nat → Int) (k j : Nat) : Value := if j < k then .bool (decide (∀ k', k' < j → T k' ≠ T j)) else .bool false

/-- Two rows of the call's own whose elements are of two types lie apart. -/
theorem own_apart {w : World} {b1 b2 e1 e2 s1 s2 : Nat} {v1 v2 : Value} {n1 n2 : Nat} {x1 x2 : List Value} (h1 : w.ownsRow b1 e1 s1 v1 n1 x1) (h2 : w.ownsRow b2 e2 s2 v2 n2 x2) (hne : e1 ≠ e2) : v1.ownBlock = none ∨ v1.ownBlock ≠ v2.ownBlock := by
  rcases h1.2 with ⟨rfl, _⟩ | ⟨g1, c1, cur1, rfl, _, hg1, _⟩
  · exact .inl rfl
  · right
    rcases h2.2 with ⟨rfl, _⟩ | ⟨g2, c2, cur2, rfl, _, hg2, _⟩
    · simp [Value.ownBlock]
    · intro e
      simp [Value.ownBlock] at e
      subst e
      rw [hg1] at hg2
      simp at hg2
      exact hne hg2.2

/-- 'ab' after k rounds. -/
def abI (K : Nat → ByteArray) (T : Nat → Int) (k : Nat) (t : Int) : Int := match lastBelow (fun q => ((K q).toList == [97]) && decide (T q = t)) k with
  | some q => (q : Int)
  | none => -1

theorem abI_hit (K : Nat → ByteArray) (T : Nat → Int) (k : Nat) (t : Int) (h : (K k).toList = [97]) (ht : T k = t) : abI K T (k + 1) t = (k : Int) := by
  simp [abI, lastBelow, h, ht]
theorem abI_other (K : Nat → ByteArray) (T : Nat → Int) (k : Nat) (t : Int) (h : T k ≠ t) : abI K T (k + 1) t = abI K T k t := by
  simp [abI, lastBelow, h]
theorem abI_not (K : Nat → ByteArray) (T : Nat → Int) (k : Nat) (t : Int) (h : ((K k).toList == [97]) = false) : abI K T (k + 1) t = abI K T k t := by
  simp [abI, lastBelow, h]
theorem abI_bd (K : Nat → ByteArray) (T : Nat → Int) (k : Nat) (t : Int) : -1 ≤ abI K T k t ∧ abI K T k t < k := by
  unfold abI
  split
  · rename_i q h
    have := (lastBelow_some h).1
    omega
  · omega

theorem dead_abI (K S : Nat → ByteArray) (T : Nat → Int) (n i j : Nat) : deadB (bops K S T n) j i = (decide (0 ≤ abI K T n (T j)) && decide (abI K T n (T j) < (i : Int))) := by
  unfold deadB abB abI
  show (match lastBelow (fun q => ((K q).toList == [97]) && decide (T q = T j)) n with | some k => decide (k < i) | none => false) = _
  cases lastBelow (fun q => ((K q).toList == [97]) && decide (T q = T j)) n with
  | none => simp
  | some q => simp

def rankTo (T : Nat → Int) (k : Nat) (t : Int) : Nat := (List.range k).countP (fun q => decide (∀ k', k' < q → T k' ≠ T q) && decide (T q < t))

theorem rankTo_hit (T : Nat → Int) (k : Nat) (t : Int) (h1 : decide (∀ k', k' < k → T k' ≠ T k) = true) (h2 : T k < t) : rankTo T (k + 1) t = rankTo T k t + 1 := by
  unfold rankTo; rw [List.range_succ, List.countP_append]; simp only [List.countP_singleton, h1, h2, decide_true, Bool.and_self, if_true]
theorem rankTo_no1 (T : Nat → Int) (k : Nat) (t : Int) (h1 : decide (∀ k', k' < k → T k' ≠ T k) = false) : rankTo T (k + 1) t = rankTo T k t := by
  unfold rankTo; rw [List.range_succ, List.countP_append]; simp [h1]
theorem rankTo_no2 (T : Nat → Int) (k : Nat) (t : Int) (h2 : ¬ T k < t) : rankTo T (k + 1) t = rankTo T k t := by
  unfold rankTo; rw [List.range_succ, List.countP_append]; simp [h2]
theorem rankTo_le (T : Nat → Int) (k : Nat) (t : Int) : rankTo T k t ≤ k := by
  have := List.countP_le_length (p := fun q => decide (∀ k', k' < q → T k' ≠ T q) && decide (T q < t)) (l := List.range k)
  simpa [rankTo] using this
theorem rankTo_eq (K S : Nat → ByteArray) (T : Nat → Int) (n : Nat) (t : Int) : rankTo T n t = rankB (bops K S T n) t := rfl

theorem firCell_step (T : Nat → Int) (k j : Nat) {v : Bool} (hv : v = decide (∀ k', k' < k → T k' ≠ T k)) : (if j = k then Value.bool v else firCell T k j) = firCell T (k + 1) j := by
  unfold firCell
  by_cases h : j = k
  · subst h; rw [if_pos rfl, if_pos (by omega), hv]
  · rw [if_neg h]
    by_cases h2 : j < k
    · rw [if_pos h2, if_pos (by omega)]
    · rw [if_neg h2, if_neg (by omega)]

theorem bytes_eq {a b : ByteArray} (h : a.data.toList = b.data.toList) : a = b := by
  cases a; cases b; simp at h; rw [h]

/-- The rows that the model gives back. -/
def idxRow (o : BOps) (i : Nat) : List Value := (readsB o i).map (fun q => Value.int .i64 (q : Nat))
def wsRow (o : BOps) (i : Nat) : List Value := (readsB o i).map (fun q => Value.int .i32 (writerB o q))

/-- The two slices that the model gathers, after i rounds. -/
structure MdInv (o : BOps) (N i : Nat) (a1 : Option Addr) (c1 : Nat) (a2 : Option Addr) (c2 : Nat) (wr : World) : Prop where
  own1 : wr.ownsRow (N + 1) 3 1 (.slice a1 (readsB o i).length c1) (readsB o i).length (idxRow o i)
  own2 : wr.ownsRow (N + 1) 21 1 (.slice a2 (readsB o i).length c2) (readsB o i).length (wsRow o i)

theorem MdInv.below {o N i a1 c1 a2 c2 wr wr'} (h : MdInv o N i a1 c1 a2 c2 wr) {B : Nat} (hb : Below B wr wr') (hB : wr.heap.size ≤ B) : MdInv o N i a1 c1 a2 c2 wr' :=
  ⟨own_below h.own1 hb hB, own_below h.own2 hb hB⟩

theorem MdInv.step {o : BOps} {N i : Nat} {a1 : Option Addr} {c1 : Nat} {a2 : Option Addr} {c2 : Nat} {wr w3 w4 w0 : World} {a3 a4 : Option Addr} {c3 c4 : Nat} (h : MdInv o N i a1 c1 a2 c2 wr) (hR : o.isR i = true) (O1 O2 : Obj)
    (hg1 : (wr.alloc O1).grownBy w3 (Value.slice a1 (readsB o i).length c1).ownBlock) (own1' : w3.ownsRow (N + 1) 3 1 (.slice a3 ((readsB o i).length + 1) c3) ((readsB o i).length + 1) (idxRow o i ++ [.int .i64 (i : Int)]))
    (hg2 : (w3.alloc O2).grownBy w4 (Value.slice a2 (readsB o i).length c2).ownBlock) (own2' : w4.ownsRow (N + 1) 21 1 (.slice a4 ((readsB o i).length + 1) c4) ((readsB o i).length + 1) (wsRow o i ++ [.int .i32 (writerB o i)])) :
    MdInv o N (i + 1) a3 c3 a4 c4 w4 ∧ (readsB o (i + 1)).length = (readsB o i).length + 1 ∧ (Below (N + 1) w0 wr → N + 1 ≤ wr.heap.size → Below (N + 1) w0 w4) := by
  have e := readsB_succ_yes o i hR
  have hL : (readsB o (i + 1)).length = (readsB o i).length + 1 := by rw [e]; simp
  have own2a := (h.own2.alloc O1).kept hg1 (own_apart (h.own2.alloc O1) (h.own1.alloc O1) (by decide))
  refine ⟨⟨?_, ?_⟩, hL, fun hb hN => ?_⟩
  · rw [hL]
    have : idxRow o (i + 1) = idxRow o i ++ [.int .i64 (i : Int)] := by unfold idxRow; rw [e]; simp
    rw [this]
    exact (own1'.alloc O2).kept hg2 (own_apart (own1'.alloc O2) (own2a.alloc O2) (by decide))
  · rw [hL]
    have : wsRow o (i + 1) = wsRow o i ++ [.int .i32 (writerB o i)] := by unfold wsRow; rw [e]; simp
    rw [this]
    exact own2'
  · have s1 := hg1.size
    simp at s1
    exact (((hb.alloc hN O1).grown hg1 (by simp; omega) (fun j hj => (h.own1.lt j hj).1)).alloc (by omega) O2).grown hg2 (by simp; omega) (fun j hj => (h.own2.lt j hj).1)

set_option maxRecDepth 100000 in
set_option maxHeartbeats 2000000 in
theorem model17 (ob n : Nat) (K S : Nat → ByteArray) (T : Nat → Int) (w : World) (hn : n ≤ 256) (hops : w.rowIs ob 76 (n * 3) (opCell K T S)) :
    Calls Yba.prog 17 #[.slice (some ⟨ob, 0, none⟩) n n] w fun e w' => ∃ a1 c1 a2 c2, e = .returned (.tuple #[.slice a1 (readsB (bops K S T n) n).length c1, .slice a2 (readsB (bops K S T n) n).length c2]) ∧ Below w.heap.size w w' ∧ MdInv (bops K S T n) w.heap.size n a1 c1 a2 c2 w' := by
  have hmk := make95 n (by omega)
  have hobl := hops.lt
  have hO1 : Hid (∀ k, k < n → ∀ wr, Below w.heap.size w wr → wr.cell? ⟨ob, k * 3, none⟩ = some (.string (K k)) ∧ wr.cell? ⟨ob, k * 3 + 1, none⟩ = some (.int .i32 (T k)) ∧ wr.cell? ⟨ob, k * 3 + 2, none⟩ = some (.string (S k))) := fun k hk wr hb => by
    refine ⟨?_, ?_, ?_⟩
    · rw [hb.cell (by exact hobl), hops.cell (by omega), opCell0]
    · rw [hb.cell (by exact hobl), hops.cell (by omega), opCell1]
    · rw [hb.cell (by exact hobl), hops.cell (by omega), opCell2]
  obtain ⟨i3, hi3, hz30, hz31, hz32⟩ := info_parts info3
  obtain ⟨i21, hi21, hz210, hz211, hz212⟩ := info_parts info21
  clear hops
  go_enter Yba.func17, Yba.ntmps17
  go_wp2_with fail
  go_loopw [6] (fun j wr => ∃ k : Nat, k ≤ n ∧ j = .int .i64 k ∧ Below w.heap.size w wr ∧ wr.rowIs w.heap.size 4 n (firCell T k)) (fun j _ => n - (intOf j).toNat)
  case atStart => exact ⟨0, Nat.zero_le _, rfl, (Below.refl _ _).alloc (Nat.le_refl _) _, (World.rowIs_made w (.bool false) n 4).congr (fun i _ => by simp [firCell])⟩
  case round =>
    obtain ⟨k, hk, rfl, hbel, hrow⟩ := hrel
    clear hmk
    by_cases hlt : k < n
    · have c0 := hrow.cell hlt
      have c1 := hrow.frozen k
      go_wp2_with fail
      generalize wr = w1 at *
      have l1 := hrow.lt
      have hrow1 := hrow.set k (.bool true)
      go_loopw [7] (fun j wr => ∃ k' : Nat, k' ≤ k ∧ j = .int .i64 k' ∧ (∀ q, q < k' → T q ≠ T k) ∧ Below w.heap.size w wr ∧ wr.rowIs w.heap.size 4 n (fun j => if j = k then .bool true else firCell T k j)) (fun j _ => k - (intOf j).toNat)
      case atStart => exact ⟨0, Nat.zero_le _, rfl, fun q hq => absurd hq (Nat.not_lt_zero _), hbel.setCell (by simp) _, hrow1⟩
      case round =>
        obtain ⟨k', hk', rfl, hno, hb1, hr1⟩ := hrel
        have HN : Hid (∀ q, q < k' → T q ≠ T k) := hno
        have HR : Hid (wr.rowIs w.heap.size 4 n (fun j => if j = k then .bool true else firCell T k j)) := hr1
        have d0 := hr1.cell hlt
        have d1 := hr1.frozen k
        clear hno hr1 hrow1 c0 c1
        obtain ⟨-, o1, -⟩ := hO1.out k hlt wr hb1
        by_cases hlt' : k' < k
        · obtain ⟨-, q1, -⟩ := hO1.out k' (by omega) wr hb1
          by_cases hT : T k' = T k
          · go_wp2_with (go_quiet (fail))
            go_roundw
            case rel =>
              have h := HR.out
              exact ⟨k + 1, by omega, by go_num, (below_drewN hb1 _).setCell (by simp) _, (World.rowIs.set (w := wr.drewN nq) h k (.bool false)).congr (fun j _ => by
                show (if j = k then Value.bool false else if j = k then Value.bool true else firCell T k j) = _
                rw [← firCell_step T k j (v := false) (by symm; simp only [decide_eq_false_iff_not]; intro h; exact h k' hlt' hT)]
                split <;> rfl)⟩
            case measure => simp [intOf]; omega
          · go_wp2_with (go_quiet (fail))
            go_roundw
            case rel => exact ⟨k' + 1, by omega, by go_num, fun q hq => by
              by_cases e : q = k'
              · subst e; exact hT
              · exact HN.out q (by omega), below_drewN hb1 _, HR.out⟩
            case measure => simp [intOf]; omega
        · have : k' = k := by omega
          subst this
          go_wp2_with (fail)
          go_roundw
          case rel =>
            have h : wr.rowIs w.heap.size 4 n (fun j => if j = k' then .bool true else firCell T k' j) := HR.out
            exact ⟨k' + 1, by omega, by go_num, hb1, h.congr (fun j _ => firCell_step T k' j (v := true) (by symm; simp only [decide_eq_true_eq]; exact HN.out))⟩
          case measure => simp [intOf]; omega
    · have hkn : k = n := by omega
      subst hkn
      go_wp2_with fail
      generalize wr = w1 at *
      have l1 := hrow.lt
      have HF : Hid (∀ wr, Below (w.heap.size + 1) w1 wr → ∀ q, q < k → wr.cell? ⟨w.heap.size, q, none⟩ = some (.bool (decide (∀ k', k' < q → T k' ≠ T q)))) := fun wr hb q hq => by
        rw [hb.cell (Nat.lt_succ_self _), hrow.cell hq]; simp [firCell, hq]
      go_loopw [8, 9, 10] (fun v1 v2 j wr => ∃ (i : Nat) (a1 : Option Addr) (c1 : Nat) (a2 : Option Addr) (c2 : Nat), i ≤ k ∧ j = .int .i64 i ∧ v1 = .slice a1 (readsB (bops K S T k) i).length c1 ∧ v2 = .slice a2 (readsB (bops K S T k) i).length c2 ∧ Below (w.heap.size + 1) w1 wr ∧ MdInv (bops K S T k) w.heap.size i a1 c1 a2 c2 wr) (fun _ _ j _ => k - (intOf j).toNat)
      case atStart => exact ⟨0, none, 0, none, 0, Nat.zero_le _, rfl, rfl, rfl, Below.refl _ _, World.ownsRow_nil _ _ _ _, World.ownsRow_nil _ _ _ _⟩
      case round =>
        obtain ⟨i, a1, c1, a2, c2, hi, rfl, rfl, rfl, hb, HMD⟩ := hrel
        have hbw : Below w.heap.size w wr := hbel.trans (hb.mono (by omega))
        by_cases hlt2 : i < k
        · obtain ⟨o0, o1, o2⟩ := hO1.out i hlt2 wr hbw
          by_cases hR : (K i).toList = [114]
          · have hR' : ((K i).toList == [114]) = true := by simpa using hR
            go_wp2_with fail
            generalize wr = w2 at *
            have HM : Hid (MdInv (bops K S T k) w.heap.size i a1 c1 a2 c2 w2) := HMD
            clear HMD
            go_loopw [11, 12] (fun v j wr => ∃ q : Nat, q ≤ i ∧ v = .int .i32 (-1) ∧ j = .int .i64 ((q : Int) - 1) ∧ (∀ p, q ≤ p → p < i → okB (bops K S T k) i p = false) ∧ Below w2.heap.size w2 wr) (fun _ j _ => (intOf j + 1).toNat)
            case atStart => exact ⟨i, Nat.le_refl _, rfl, by go_num, fun p h1 h2 => absurd h1 (by omega), Below.refl _ _⟩
            case round =>
              obtain ⟨q, hq, rfl, rfl, hno, hb2⟩ := hrel
              have HN : Hid (∀ p, q ≤ p → p < i → okB (bops K S T k) i p = false) := hno
              clear hno
              have hbq : Below w.heap.size w wr := hbw.trans (hb2.mono hbw.size)
              have hsz : w.heap.size + 1 ≤ wr.heap.size := by have := hb.size; have := hb2.size; omega
              obtain ⟨u0, u1, u2⟩ := hO1.out i hlt2 wr hbq
              cases q with
              | zero =>
                have hwr : writerB (bops K S T k) i = -1 := by
                  unfold writerB
                  rw [lastBelow_eq_none (fun p hp => HN.out p (Nat.zero_le _) hp)]
                have HMD := HM.out.below hb2 (Nat.le_refl _)
                have own1 := HMD.own1
                have own2 := HMD.own2
                have hle : (readsB (bops K S T k) i).length ≤ 256 := by have := readsB_le (bops K S T k) i; omega
                have hap := own_apart own2 own1 (by decide)
                have HMQ : Hid (MdInv (bops K S T k) w.heap.size i a1 c1 a2 c2 wr) := HMD
                clear HMD
                go_wp2_with (first
                  | (at_builtin; (refine wpList_append_own _ rfl _ _ 53 rfl (w.heap.size + 1) 3 i3 (.int .i64 0) 1 8 Yba.underlying53 hi3 hz30 hz31 hz32 rfl (by decide) _ _ _ rfl (own1.alloc _) ⟨wr.heap.size, 0, none⟩ 1 1 [.int .i64 (i : Int)] rfl rfl (cell_one_new _ _ _) (by simp [Value.oneCell']) (by unfold maxLen; omega) (by omega) (by simp; omega) ?_; intro v' w3 hown' hgrow hnil; obtain ⟨a3, cp3, hv3⟩ := own_shape hown'; subst hv3; have own3 := (own2.alloc (.cells #[.int .i64 (i : Int)] 3)).kept hgrow hap; have hs3 : wr.heap.size ≤ w3.heap.size := Nat.le_trans (by simp) hgrow.size; have HO : Hid _ := hown'; have HG : Hid _ := hgrow; clear hown' hgrow hnil))
                  | (at_builtin; (refine wpList_append_own _ rfl _ _ 43 rfl (w.heap.size + 1) 21 i21 (.int .i32 0) 1 4 Yba.underlying43 hi21 hz210 hz211 hz212 rfl (by decide) _ _ _ rfl (own3.alloc _) ⟨w3.heap.size, 0, none⟩ 1 1 [.int .i32 (-1)] rfl rfl (cell_one_new _ _ _) (by simp [Value.oneCell']) (by unfold maxLen; omega) (by omega) (by simp; omega) ?_; intro v' w4 hown' hgrow hnil; obtain ⟨a4, cp4, hv4⟩ := own_shape hown'; subst hv4; have HO4 : Hid _ := hown'; have HG4 : Hid _ := hgrow; clear hown' hgrow hnil)))
                go_roundw
                case rel =>
                  have hO4 := HO4.out
                  rw [← hwr] at hO4
                  have hMQ : MdInv (bops K S T k) w.heap.size i a1 c1 a2 c2 wr := HMQ.out
                  obtain ⟨s1, s2, s3⟩ := hMQ.step (w0 := w1) hR' _ _ HG.out HO.out HG4.out hO4
                  have hbx : Below (w.heap.size + 1) w1 w4 := s3 (hb.trans (hb2.mono (by have := hb.size; omega))) hsz
                  exact ⟨i + 1, a3, cp3, a4, cp4, by omega, by go_num, by rw [s2], by rw [s2], hbx, s1⟩
                case measure => simp [intOf]; omega
              | succ p =>
                have hpe : (((p + 1 : Nat) : Int) - 1) = (p : Int) := by omega
                rw [hpe]
                obtain ⟨p0, p1, p2⟩ := hO1.out p (by omega) wr hbq
                cases hW : (K p).toList == [119] with
                | false =>
                  go_wp2_with (go_quiet (fail))
                  go_roundw
                  case rel => exact ⟨p, by omega, rfl, by go_num, fun p' h1 h2 => by
                    by_cases e : p' = p
                    · subst e; unfold okB; rw [show (bops K S T k).isW p' = false from hW]; rfl
                    · exact HN.out p' (by omega) h2, below_drewN hb2 _⟩
                  case measure => simp [intOf]
                | true =>
                  cases hS : (S p).toList == (S i).toList with
                  | false =>
                    go_wp2_with (go_quiet (fail))
                    go_roundw
                    case rel => exact ⟨p, by omega, rfl, by go_num, fun p' h1 h2 => by
                      by_cases e : p' = p
                      · subst e
                        have hne : ¬ (S p').toList = (S i).toList := by simpa using hS
                        have : ¬ (S p').data.toList = (S i).data.toList := fun e => hne (by rw [bytes_eq e])
                        unfold okB
                        rw [show decide ((bops K S T k).S p' = (bops K S T k).S i) = false from by simpa [bops] using this]
                        simp
                      · exact HN.out p' (by omega) h2, below_drewN hb2 _⟩
                    case measure => simp [intOf]
                  | true =>
                    go_wp2_with (go_quiet (fail))
                    have hb3 := below_drewN hb2 nq
                    generalize wr.drewN nq = w5 at hb3 ⊢
                    clear hb2 hbq u0 u1 u2 p0 p1 p2
                    go_loopw [13, 14] (fun v j wr => ∃ m : Nat, m ≤ k ∧ v = .int .i64 (abI K T m (T p)) ∧ j = .int .i64 (m : Int) ∧ Below w2.heap.size w2 wr) (fun _ j _ => k - (intOf j).toNat)
                    case atStart => exact ⟨0, Nat.zero_le _, rfl, rfl, hb3⟩
                    case round =>
                      obtain ⟨m, hm, rfl, rfl, hb2⟩ := hrel
                      have hbq : Below w.heap.size w wr := hbw.trans (hb2.mono hbw.size)
                      have hab := abI_bd K T m (T p)
                      obtain ⟨-, p1, -⟩ := hO1.out p (by omega) wr hbq
                      by_cases hlt3 : m < k
                      · obtain ⟨m0, m1, -⟩ := hO1.out m hlt3 wr hbq
                        cases hA : (K m).toList == [97] with
                        | false =>
                          go_wp2_with (go_quiet (fail))
                          go_roundw
                          case rel => exact ⟨m + 1, by omega, by rw [abI_not K T m _ hA], by go_num, below_drewN hb2 _⟩
                          case measure => simp [intOf]; omega
                        | true =>
                          by_cases hT : T m = T p
                          · go_wp2_with (go_quiet (fail))
                            go_roundw
                            case rel => exact ⟨m + 1, by omega, by rw [abI_hit K T m _ (by simpa using hA) hT], by go_num, below_drewN hb2 _⟩
                            case measure => simp [intOf]; omega
                          · go_wp2_with (go_quiet (fail))
                            go_roundw
                            case rel => exact ⟨m + 1, by omega, by rw [abI_other K T m _ hT], by go_num, below_drewN hb2 _⟩
                            case measure => simp [intOf]; omega
                      · have hmk : m = k := by omega
                        subst hmk
                        have HD := dead_abI K S T m i p
                        generalize abI K T m (T p) = ab at *
                        by_cases hdd : 0 ≤ ab ∧ ab < (i : Int)
                        · obtain ⟨hd1, hd2⟩ := hdd
                          go_wp2_with fail
                          go_roundw
                          case rel => exact ⟨p, by omega, rfl, by go_num, fun p' h1 h2 => by
                            by_cases e : p' = p
                            · subst e
                              unfold okB
                              rw [HD]
                              simp [hd1, hd2]
                            · exact HN.out p' (by omega) h2, hb2⟩
                          case measure => simp [intOf]
                        · have HDD : Hid (deadB (bops K S T m) p i = false) := by rw [HD]; simp; intro h; omega
                          clear HD
                          go_wp2_with fail
                          all_goals
                            generalize wr = w6 at hb2 hbq p1 ⊢
                            clear hb3
                            go_loopw [15, 16] (fun v j wr => ∃ q : Nat, q ≤ m ∧ v = .int .i32 ((rankTo T q (T p) : Nat) : Int) ∧ j = .int .i64 (q : Int) ∧ Below w2.heap.size w2 wr) (fun _ j _ => m - (intOf j).toNat)
                            case atStart => exact ⟨0, Nat.zero_le _, rfl, rfl, hb2⟩
                            case round =>
                              clear hb2 hbq p1
                              obtain ⟨q, hq3, rfl, rfl, hb2⟩ := hrel
                              have hbq : Below w.heap.size w wr := hbw.trans (hb2.mono hbw.size)
                              have hsz : w.heap.size + 1 ≤ wr.heap.size := by have := hb.size; have := hb2.size; omega
                              have hrb := rankTo_le T q (T p)
                              have hfb : Below (w.heap.size + 1) w1 wr := hb.trans (hb2.mono (by have := hb.size; omega))
                              obtain ⟨-, p1, -⟩ := hO1.out p (by omega) wr hbq
                              by_cases hlt4 : q < m
                              · have f0 := HF.out wr hfb q hlt4
                                obtain ⟨-, m1, -⟩ := hO1.out q hlt4 wr hbq
                                generalize hFe : decide (∀ k', k' < q → T k' ≠ T q) = bF at f0
                                cases bF with
                                | false =>
                                  have HFE : Hid (decide (∀ k', k' < q → T k' ≠ T q) = false) := hFe
                                  clear hFe
                                  go_wp2_with (go_quiet (fail))
                                  go_roundw
                                  case rel => exact ⟨q + 1, by omega, by rw [rankTo_no1 T q _ HFE.out], by go_num, below_drewN hb2 _⟩
                                  case measure => simp [intOf]; omega
                                | true =>
                                  have HFE : Hid (decide (∀ k', k' < q → T k' ≠ T q) = true) := hFe
                                  clear hFe
                                  by_cases hT : T q < T p
                                  · go_wp2_with (go_quiet (fail))
                                    go_roundw
                                    case rel => exact ⟨q + 1, by omega, by rw [rankTo_hit T q _ HFE.out hT]; go_num, by go_num, below_drewN hb2 _⟩
                                    case measure => simp [intOf]; omega
                                  · go_wp2_with (go_quiet (fail))
                                    go_roundw
                                    case rel => exact ⟨q + 1, by omega, by rw [rankTo_no2 T q _ hT], by go_num, below_drewN hb2 _⟩
                                    case measure => simp [intOf]; omega
                              · have hqm : q = m := by omega
                                subst hqm
                                have hwr : writerB (bops K S T q) i = ((rankTo T q (T p) : Nat) : Int) := by
                                  unfold writerB
                                  rw [lastBelow_eq_some (j := p) (by omega) (by
                                    unfold okB
                                    rw [HDD.out, show (bops K S T q).isW p = true from hW]
                                    have hSS : (S p).data.toList = (S i).data.toList := by rw [← ByteArray.toList_eq, ← ByteArray.toList_eq]; simpa using hS
                                    rw [show decide ((bops K S T q).S p = (bops K S T q).S i) = true from decide_eq_true hSS]
                                    rfl) (fun q h1 h2 => HN.out q (by omega) h2)]
                                  rfl
                                have HMD := HM.out.below hb2 (Nat.le_refl _)
                                have own1 := HMD.own1
                                have own2 := HMD.own2
                                have hle : (readsB (bops K S T q) i).length ≤ 256 := by have := readsB_le (bops K S T q) i; omega
                                have hap := own_apart own2 own1 (by decide)
                                have HMQ : Hid (MdInv (bops K S T q) w.heap.size i a1 c1 a2 c2 wr) := HMD
                                clear HMD
                                go_wp2_with (first
                                | (at_builtin; (refine wpList_append_own _ rfl _ _ 53 rfl (w.heap.size + 1) 3 i3 (.int .i64 0) 1 8 Yba.underlying53 hi3 hz30 hz31 hz32 rfl (by decide) _ _ _ rfl (own1.alloc _) ⟨wr.heap.size, 0, none⟩ 1 1 [.int .i64 (i : Int)] rfl rfl (cell_one_new _ _ _) (by simp [Value.oneCell']) (by unfold maxLen; omega) (by omega) (by simp; omega) ?_; intro v' w3 hown' hgrow hnil; obtain ⟨a3, cp3, hv3⟩ := own_shape hown'; subst hv3; have own3 := (own2.alloc (.cells #[.int .i64 (i : Int)] 3)).kept hgrow hap; have hs3 : wr.heap.size ≤ w3.heap.size := Nat.le_trans (by simp) hgrow.size; have HO : Hid _ := hown'; have HG : Hid _ := hgrow; clear hown' hgrow hnil))
                                | (at_builtin; (refine wpList_append_own _ rfl _ _ 43 rfl (w.heap.size + 1) 21 i21 (.int .i32 0) 1 4 Yba.underlying43 hi21 hz210 hz211 hz212 rfl (by decide) _ _ _ rfl (own3.alloc _) ⟨w3.heap.size, 0, none⟩ 1 1 [.int .i32 ((rankTo T q (T p) : Nat) : Int)] rfl rfl (cell_one_new _ _ _) (by simp [Value.oneCell']) (by unfold maxLen; omega) (by omega) (by simp; omega) ?_; intro v' w4 hown' hgrow hnil; obtain ⟨a4, cp4, hv4⟩ := own_shape hown'; subst hv4; have HO4 : Hid _ := hown'; have HG4 : Hid _ := hgrow; clear hown' hgrow hnil)))
                                go_roundw
                                case rel =>
                                  have hO4 := HO4.out
                                  rw [← hwr] at hO4
                                  have hMQ : MdInv (bops K S T q) w.heap.size i a1 c1 a2 c2 wr := HMQ.out
                                  obtain ⟨s1, s2, s3⟩ := hMQ.step (w0 := w1) hR' _ _ HG.out HO.out HG4.out hO4
                                  have hbx : Below (w.heap.size + 1) w1 w4 := s3 (hb.trans (hb2.mono (by have := hb.size; omega))) hsz
                                  exact ⟨i + 1, a3, cp3, a4, cp4, by omega, by go_num, by rw [s2], by rw [s2], hbx, s1⟩
                                case measure => simp [intOf]; omega
          · have hR' : ((K i).toList == [114]) = false := by simpa using hR
            have HM : Hid _ := HMD
            clear HMD
            go_wp2_with fail
            go_roundw
            case rel =>
              have e := readsB_succ_no (bops K S T k) i hR'
              have h := HM.out
              refine ⟨i + 1, a1, c1, a2, c2, by omega, by go_num, by rw [e], by rw [e], hb, ?_⟩
              constructor
              · unfold idxRow; rw [e]; exact h.own1
              · unfold wsRow; rw [e]; exact h.own2
            case measure => simp [intOf]; omega
        · have : i = k := by omega
          subst this
          have HM : Hid _ := HMD
          clear HMD
          go_wp2_with fail
          go_ret2
          exact ⟨a1, c1, a2, c2, rfl, hbw, HM.out⟩

end Go.Proofs.Ybulkbik
