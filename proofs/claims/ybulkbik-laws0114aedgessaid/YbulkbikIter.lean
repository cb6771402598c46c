import Derived.Test.YbulkbikIterP
import Derived.OwnWalkIn
import Derived.TacticsInMore
import Derived.LoopNIn
import Derived.LoopIn
import Derived.BigRegion
namespace Go.Proofs.Ybulkbik
attribute [local go_sem ↓] Go.wp_at_zero Go.wp_at_succ
attribute [local go_sem] Oper.semAt_some
open Go.RowKit Go.Maps

/-- A pair of values for one round. -/
def encB (o : BOps) (i : Nat) : Array Value := #[.int .i64 (i : Int), .int .i32 (writerB o i)]

theorem block_wide (m : Nat) {c C : Code} {K : Act → World → Prop} {Q Q' : Exit → Act → World → Prop} {k : Nat} {a : Act} {w : World} (hK : ∀ a w, Code.wp Yba.prog C Q a w → K a w)
    (h : ∀ K2 : Act → World → Prop, (∀ a w, C.wpIn Fence.wide m Yba.prog Q a w → K2 a w) → c.wp Yba.prog (Exit.inBlock k (Exit.then K2 Q')) a w) : c.wp Yba.prog (Exit.inBlock k (Exit.then K Q')) a w :=
  h K (fun a w h => hK a w (wpIn_wide.1 h))

theorem turn_of_below {M : Nat → Prop} {B X : Nat} {A C : World} (h : Below A.heap.size A C) : Turn M B X A C := ⟨h.os, h.tape, h.output, h.size, fun b hb _ => h.block b hb⟩

/-- Where the search for the writer stands. -/
def prevOk (K S : Nat → ByteArray) (T : Nat → Int) (n i : Nat) (a x : Int) : Prop := LinkB (bops K S T n) i (S i).data.toList a i ∧ ((a = -1 ∧ x = -1) ∨ ∃ m : Nat, m < i ∧ a = m ∧ x = (rkOf T n m : Nat))

theorem prev_writer_none {K S : Nat → ByteArray} {T : Nat → Int} {n i : Nat} {a x : Int} (h : prevOk K S T n i a x) (ha : a = -1) : writerB (bops K S T n) i = x := by
  subst ha
  rcases h.2 with ⟨_, e⟩ | ⟨m, _, e, _⟩
  · rw [e]; exact h.1.none
  · omega

theorem prev_writer_some {K S : Nat → ByteArray} {T : Nat → Int} {n i m : Nat} {a x : Int} (h : prevOk K S T n i a x) (ha : a = m) (hd : deadB (bops K S T n) m i = false) : writerB (bops K S T n) i = x := by
  subst ha
  rcases h.2 with ⟨e, _⟩ | ⟨m', _, e, hx⟩
  · omega
  · have : m' = m := by omega
    subst this
    rw [LinkB.some (show LinkB (bops K S T n) i ((bops K S T n).S i) m' i from h.1) hd, rankB_txs, hx]
    rfl

theorem prev_back {K S : Nat → ByteArray} {T : Nat → Int} {n i m : Nat} {a x : Int} {atf txf ef : Nat → Int} (hL : LastAt K S T n i atf txf ef) (h : prevOk K S T n i a x) (hm : m < i) (ha : a = m) (hd : deadB (bops K S T n) m i = true) :
    (ef m = -1 ∧ prevOk K S T n i (-1) (-1)) ∨ ∃ e : Nat, ef m = e ∧ e < m ∧ prevOk K S T n i e (rkOf T n e : Nat) := by
  subst ha
  have hw : ((K m).toList == [119]) = true ∧ (S m).data.toList = (S i).data.toList := by
    rcases h.1.1 with e | ⟨m', e, _, h3, h4⟩
    · omega
    · have : m' = m := by omega
      subst this
      exact ⟨h3, h4⟩
  have he := (hL.earl m hm hw.1).mono (show m ≤ i by omega)
  rw [hw.2] at he
  have hb := h.1.back hd hm he
  rcases he.1 with e | ⟨k, e, hk, _⟩
  · rw [e] at hb
    exact .inl ⟨e, hb, .inl ⟨rfl, rfl⟩⟩
  · rw [e] at hb
    exact .inr ⟨k, e, hk, hb, .inr ⟨k, by omega, rfl, rfl⟩⟩

theorem rowPair {wr : World} {PB : Nat} {a x : Int} (h : wr.rowIs PB 92 2 (fun j => .int .i32 (if j = 0 then a else x))) (q : Nat) (a' x' : Int) :
    (((wr.drewN q).setCell ⟨PB, 0, none⟩ (.int .i32 a')).setCell ⟨PB, 1, none⟩ (.int .i32 x')).rowIs PB 92 2 (fun j => .int .i32 (if j = 0 then a' else x')) := by
  have h' : (wr.drewN q).rowIs PB 92 2 (fun j => .int .i32 (if j = 0 then a else x)) := h
  refine ((h'.set 0 (.int .i32 a')).set 1 (.int .i32 x')).congr (fun j hj => ?_)
  show (if j = 1 then Value.int .i32 x' else if j = 0 then .int .i32 a' else .int .i32 (if j = 0 then a else x)) = .int .i32 (if j = 0 then a' else x')
  match j, hj with
  | 0, _ => rfl
  | 1, _ => rfl

def itR (ob ib ofb eb bx b : Nat) : Prop := b = ob ∨ b = ib ∨ b = ofb ∨ b = eb ∨ b = bx

set_option maxRecDepth 100000 in
set_option maxHeartbeats 4000000 in
theorem iter27 (ob ib ofb eb g0 bx n : Nat) (K S : Nat → ByteArray) (T : Nat → Int) (f : Nat → Value) (w : World) (m : Nat) (hn : n ≤ 256) (hin : InpAt K T n ob ib g0 ofb eb none f w) (hops : w.rowIs ob 76 (n * 3) (opCell K T S)) (hS : ∀ i, i < n → (S i).size ≤ maxLen)
    (hbx : w.rowIs bx 32 1 (fun _ => .pointer (some ⟨ib, 0, none⟩))) (hd : ib ≠ ob ∧ ib ≠ ofb ∧ ib ≠ eb ∧ ib ≠ bx) :
    SeqM Fence.wide m Yba.prog 27 #[.pointer (some ⟨bx, 0, none⟩)] (encB (bops K S T n)) (readsB (bops K S T n) n) (itR ob ib ofb eb bx) ib w := by
  intro l J Jx M W hW hRM hJ hJb hY hJ0
  refine callsIn_wide.2 ?_
  have hins := hin.inp.of_block (hW.block _ hin.inp.lt)
  have hbxs := hbx.of_block (hW.block _ hbx.lt)
  have hopss := hops.of_block (hW.block _ hops.lt)
  have cb := hbxs.cell (i := 0) (by omega)
  have lb := hbxs.lt
  have li := hins.lt
  have lo := hopss.lt
  have HJ : Hid (∀ (k : Nat) (M : Nat → Prop) (A B : World), J k M A → Turn M W.heap.size ib A B → J k M B) := hJ
  have HJb : Hid (∀ (k : Nat) (M : Nat → Prop) (A : World), J k M A → ∀ b, M b → b < A.heap.size) := hJb
  have HY : Hid _ := hY
  have HRM : Hid (∀ b, itR ob ib ofb eb bx b → ¬ M b) := hRM
  clear hJ hJb hY hRM
  have hmk := make93 (seenTo K S n).length (by have := seenTo_le K S n; omega)
  have hmk2 := make43 n (by omega)
  go_enter Yba.func27, Yba.ntmps27
  go_wp2_with (first
    | (go_at_call 19; refine (items19_new ib ob n (inpCell ob n g0 (txsTo T n).length ofb eb none) K S T _ (by omega) (hopss.alloc _) hS (hins.alloc _) rfl rfl).mono ?_; rintro e w1 ⟨g, pb, rfl, hg1, hin1, hpb1, hnum1, hg, hpb⟩; have li1 := hin1.lt; have lg1 := hnum1.lt))
  have hsz1 : W.heap.size + 1 ≤ w1.heap.size := by have := hg1.size; simpa using this
  have non0 : (W.alloc (.cells #[.int .i32 (-1), .int .i32 (-1)] 92)).rowIs W.heap.size 92 2 (fun _ => .int .i32 (-1)) :=
    World.rowIs_alloc W #[.int .i32 (-1), .int .i32 (-1)] 92 (fun _ => .int .i32 (-1)) (fun i hi => by
      match i, hi with
      | 0, _ => rfl
      | 1, _ => rfl)
  have non1 := rowIs_grown non0 hg1 (by simp; omega)
  have box1 := rowIs_grown (hbxs.alloc _) hg1 (by simp; omega)
  have ops1 := rowIs_grown (hopss.alloc _) hg1 (by simp; omega)
  have of1 := rowIs_grown ((hin.of.of_block (hW.block _ hin.of.lt)).alloc (.cells #[.int .i32 (-1), .int .i32 (-1)] 92)) hg1 (by simp; omega)
  have ends1 := rowIs_grown ((hin.ends.of_block (hW.block _ hin.ends.lt)).alloc (.cells #[.int .i32 (-1), .int .i32 (-1)] 92)) hg1 (by simp; omega)
  have tn1 : Turn M W.heap.size ib W w1 := ((Turn.refl _ _ _ W).alloc _).trans (Turn.of_grownBy hg1 (fun r e => by cases e; exact ⟨HRM.out _ (by simp [itR]), fun _ => rfl⟩))
  have hgN : g ≠ ib := by simp at hg; omega
  obtain ⟨MC, hMC⟩ : ∃ MC, madeCells #[.int .i32 0, .int .i32 0] ((seenTo K S n).length * 2) = MC := ⟨_, rfl⟩
  have hMs : MC.size = (seenTo K S n).length * 2 := by rw [← hMC]; exact size_madeCells _ _
  obtain ⟨z, hz⟩ : ∃ z : Nat → Value, ∀ i, i < MC.size → MC[i]? = some (z i) := ⟨fun i => MC[i]?.getD undef, fun i hi => by simp [hi]⟩
  rw [hMC]
  clear hMC hmk
  have its2 := World.rowIs_alloc w1 #[.int .i64 ((seenTo K S n).length : Nat), .slice (some ⟨g, 0, none⟩) n n] 71 (itCell (seenTo K S n).length g n) (fun i hi => by
      match i, hi with
      | 0, _ => rfl
      | 1, _ => rfl)
  have last2 := World.rowIs_alloc (w1.alloc (.cells #[.int .i64 ((seenTo K S n).length : Nat), .slice (some ⟨g, 0, none⟩) n n] 71)) MC 92 z hz
  rw [hMs, World.size_alloc] at last2
  have tn2 := (tn1.alloc (.cells #[.int .i64 ((seenTo K S n).length : Nat), .slice (some ⟨g, 0, none⟩) n n] 71)).alloc (.cells MC 92)
  have its3 := its2.alloc (.cells MC 92)
  have non3 := (non1.alloc (.cells #[.int .i64 ((seenTo K S n).length : Nat), .slice (some ⟨g, 0, none⟩) n n] 71)).alloc (.cells MC 92)
  have box3 := (box1.alloc (.cells #[.int .i64 ((seenTo K S n).length : Nat), .slice (some ⟨g, 0, none⟩) n n] 71)).alloc (.cells MC 92)
  have ops3 := (ops1.alloc (.cells #[.int .i64 ((seenTo K S n).length : Nat), .slice (some ⟨g, 0, none⟩) n n] 71)).alloc (.cells MC 92)
  have of3 := (of1.alloc (.cells #[.int .i64 ((seenTo K S n).length : Nat), .slice (some ⟨g, 0, none⟩) n n] 71)).alloc (.cells MC 92)
  have ends3 := (ends1.alloc (.cells #[.int .i64 ((seenTo K S n).length : Nat), .slice (some ⟨g, 0, none⟩) n n] 71)).alloc (.cells MC 92)
  have inp3 := (hin1.alloc (.cells #[.int .i64 ((seenTo K S n).length : Nat), .slice (some ⟨g, 0, none⟩) n n] 71)).alloc (.cells MC 92)
  have num3 := (hnum1.alloc (.cells #[.int .i64 ((seenTo K S n).length : Nat), .slice (some ⟨g, 0, none⟩) n n] 71)).alloc (.cells MC 92)
  have hlow : itLow ob ib ofb eb bx W.heap.size g w1.heap.size := ⟨ops1.lt, hin1.lt, of1.lt, ends1.lt, box1.lt, by omega, hnum1.lt⟩
  have hsz3 : ((w1.alloc (.cells #[.int .i64 ((seenTo K S n).length : Nat), .slice (some ⟨g, 0, none⟩) n n] 71)).alloc (.cells MC 92)).heap.size = w1.heap.size + 1 + 1 := by simp
  generalize (w1.alloc (.cells #[.int .i64 ((seenTo K S n).length : Nat), .slice (some ⟨g, 0, none⟩) n n] 71)).alloc (.cells MC 92) = w2 at *
  have hMb : ∀ b, M b → b < W.heap.size := HJb.out 0 M W hJ0
  clear its2 non0 non1 box1 ops1 of1 ends1 hnum1 hin1 tn1 hz hMs hbxs hopss hins hg1 hpb1
  have hcl := seenTo_le K S n
  go_loopw [21] (fun j wr => ∃ (q : Nat) (h : Nat → Value), q ≤ (seenTo K S n).length ∧ j = .int .i64 (q : Int) ∧ Below (w1.heap.size + 1) w2 wr ∧ w1.heap.size + 1 + 1 = wr.heap.size ∧ Turn M W.heap.size ib W wr ∧ wr.rowIs (w1.heap.size + 1) 92 ((seenTo K S n).length * 2) h ∧ (∀ j, j < q * 2 → h j = .int .i32 (-1))) (fun j _ => (seenTo K S n).length - (intOf j).toNat)
  case atStart => exact ⟨0, z, Nat.zero_le _, rfl, Below.refl _ _, hsz3.symm, tn2, last2, fun j hj => absurd hj (by omega)⟩
  case round =>
    obtain ⟨q, h, hq, rfl, hb2, hsz, htn, hrow, hm1⟩ := hrel
    have HM1 : Hid (∀ j, j < q * 2 → h j = .int .i32 (-1)) := hm1
    clear hm1
    have r0 := (hb2.cell (p := ⟨W.heap.size, 0, none⟩) (by simp; omega)).trans (non3.cell (i := 0) (by omega))
    have r1 := (hb2.cell (p := ⟨W.heap.size, 1, none⟩) (by simp; omega)).trans (non3.cell (i := 1) (by omega))
    by_cases hlt : q < (seenTo K S n).length
    · have d0 := hrow.cell (i := q * 2) (by omega)
      have d1 := hrow.cell (i := q * 2 + 1) (by omega)
      have f0 := hrow.frozen (q * 2)
      have f1 := hrow.frozen (q * 2 + 1)
      go_wp2_with fail
      go_roundw
      case rel =>
        refine ⟨q + 1, _, by omega, by go_num, (hb2.setCell (by simp) _).setCell (by simp) _, by simpa using hsz, (htn.setCell _ (fun h => by have := hMb _ h; simp at this; omega) (by simp; omega)).setCell _ (fun h => by have := hMb _ h; simp at this; omega) (by simp; omega), (hrow.set _ _).set _ _, fun j hj => ?_⟩
        show (if j = q * 2 + 1 then Value.int .i32 (-1) else if j = q * 2 then .int .i32 (-1) else h j) = _
        split
        · rfl
        · split
          · rfl
          · exact HM1.out j (by omega)
      case measure => simp [intOf]; omega
    · have hqe : q = (seenTo K S n).length := by omega
      have box4 := box3.of_block (hb2.block _ (by have := hlow.2.2.2.2.1; omega))
      have inp4 := inp3.of_block (hb2.block _ (by have := hlow.2.1; omega))
      have of4 := of3.of_block (hb2.block _ (by have := hlow.2.2.1; omega))
      have ends4 := ends3.of_block (hb2.block _ (by have := hlow.2.2.2.1; omega))
      have ops4 := ops3.of_block (hb2.block _ (by have := hlow.1; omega))
      have non4 := non3.of_block (hb2.block _ (by omega))
      have its4 := its3.of_block (hb2.block _ (by omega))
      have num4 := num3.of_block (hb2.block _ (by have := hlow.2.2.2.2.2.2; omega))
      have last4 := hrow.congr (g := lastCell (fun _ => -1) (fun _ => -1)) (fun j hj => by rw [HM1.out j (by omega)]; simp [lastCell])
      have b0 := box4.cell (i := 0) (by omega)
      have i0 := inp4.cell (i := 0) (by omega)
      have hbxl := box4.lt
      have hibl := inp4.lt
      rw [show (if (0 : Nat) = 4 then Value.pointer (some ⟨pb, 0, none⟩) else inpCell ob n g0 (txsTo T n).length ofb eb none 0) = .slice (some ⟨ob, 0, none⟩) n n from rfl] at i0
      clear box3 inp3 of3 ends3 ops3 non3 its3 num3 hrow HM1 last2 tn2
      go_wp2_with fail
      have earl5 := World.rowIs_made wr (.int .i32 0) n 21
      have hmem : ItMem K S T n ob ib ofb eb g0 bx W.heap.size g pb w1.heap.size f (fun _ => -1) (fun _ => -1) (fun _ => 0) (wr.alloc (.cells (madeCells #[.int .i32 0] n) 21)) := by
        refine ⟨box4.alloc _, inp4.alloc _, of4.alloc _, ends4.alloc _, ops4.alloc _, non4.alloc _, its4.alloc _, num4.alloc _, last4.alloc _, ?_⟩
        rw [hsz]
        exact earl5
      have hJs := HJ.out 0 M _ _ hJ0 (htn.alloc (.cells (madeCells #[.int .i32 0] n) 21))
      have hMi : ∀ b, itBlock ob ib ofb eb bx W.heap.size g w1.heap.size b → ¬ M b := by
        rintro b (e | e | e | e | e | e | e | e | e | e) hm
        · exact HRM.out b (by simp [itR, e]) hm
        · exact HRM.out b (by simp [itR, e]) hm
        · exact HRM.out b (by simp [itR, e]) hm
        · exact HRM.out b (by simp [itR, e]) hm
        · exact HRM.out b (by simp [itR, e]) hm
        · have := hMb b hm; omega
        · have := hMb b hm; simp at hg; omega
        · have := hMb b hm; omega
        · have := hMb b hm; omega
        · have := hMb b hm; omega
      rw [← hsz]
      generalize wr.alloc (.cells (madeCells #[.int .i32 0] n) 21) = w3 at hmem hJs ⊢
      clear earl5 box4 inp4 of4 ends4 ops4 non4 its4 num4 last4 b0 i0 htn hb2 hsz r0 r1 hbxl hibl hmk2
      have HAB : Hid (∀ i, i < n → f (rkOf T n i * 3 + 1) = .int .i64 (abTo K T n (T i))) := hin.ab
      have HLOW : Hid (itLow ob ib ofb eb bx W.heap.size g w1.heap.size) := hlow
      have HMem : Hid (ItMem K S T n ob ib ofb eb g0 bx W.heap.size g pb w1.heap.size f (fun _ => -1) (fun _ => -1) (fun _ => 0) w3) := hmem
      have HMi : Hid (∀ b, itBlock ob ib ofb eb bx W.heap.size g w1.heap.size b → ¬ M b) := hMi
      clear hmem hMi hlow hin hops hbx hMb
      go_loopw [40] (fun j wr => ∃ (i : Nat) (M' : Nat → Prop) (atf txf ef : Nat → Int), i ≤ n ∧ j = .int .i64 (i : Int) ∧ J (readsB (bops K S T n) i).length M' wr ∧ ItMem K S T n ob ib ofb eb g0 bx W.heap.size g pb w1.heap.size f atf txf ef wr ∧ LastAt K S T n i atf txf ef ∧ (∀ b, itBlock ob ib ofb eb bx W.heap.size g w1.heap.size b → ¬ M' b)) (fun j _ => n - (intOf j).toNat)
      case atStart => exact ⟨0, M, _, _, _, Nat.zero_le _, rfl, hJs, HMem.out, LastAt.zero K S T n _, HMi.out⟩
      case round =>
        clear HMi HMem hJs HRM hqe
        obtain ⟨i, M', atf, txf, ef, hi, rfl, hJi, hmem, hlast, hMi⟩ := hrel
        by_cases hlt : i < n
        · have HL : Hid (LastAt K S T n i atf txf ef) := hlast
          have HMi : Hid (∀ b, itBlock ob ib ofb eb bx W.heap.size g w1.heap.size b → ¬ M' b) := hMi
          have hlts := hmem.lt
          have l1 := hmem.ops.lt
          have l2 := hmem.its.lt
          have l3 := hmem.num.lt
          have l4 := hmem.last.lt
          have l5 := hmem.earl.lt
          have l6 := hmem.box.lt
          have l7 := hmem.inp.lt
          have l8 := hmem.of.lt
          have l9 := hmem.ends.lt
          have l10 := hmem.non.lt
          have o0 := hmem.ops.cell (i := i * 3) (by omega)
          have o1 := hmem.ops.cell (i := i * 3 + 1) (by omega)
          have o2 := hmem.ops.cell (i := i * 3 + 2) (by omega)
          rw [opCell0] at o0
          rw [opCell1] at o1
          rw [opCell2] at o2
          have t1 := hmem.its.cell (i := 1) (by omega)
          have n1 := hmem.num.cell (i := i) hlt
          rw [show itCell (seenTo K S n).length g n 1 = .slice (some ⟨g, 0, none⟩) n n from rfl] at t1
          have HMem : Hid (ItMem K S T n ob ib ofb eb g0 bx W.heap.size g pb w1.heap.size f atf txf ef wr) := hmem
          clear hlast hMi hlts hmem
          cases hW : (K i).toList == [119] with
          | true =>
            have hnum := numAt_eq K S hlt (acts_w hW)
            have hql := List.idxOf_lt_length_of_mem (seenTo_mem K S hlt (acts_w hW))
            obtain ⟨q, hq⟩ : ∃ q, q = (seenTo K S n).idxOf (S i).data.toList := ⟨_, rfl⟩
            rw [hnum, ← hq] at n1
            rw [← hq] at hql
            have HQ : Hid (q = (seenTo K S n).idxOf (S i).data.toList) := hq
            clear hq hnum
            have hI0 : (0 : Int) ≤ (i : Int) := by omega
            have hI1 : (i : Int) < (n : Int) := by omega
            have hI2 : (0 : Int) ≤ (q : Int) := by omega
            have hI3 : (q : Int) < ((seenTo K S n).length : Int) := by omega
            have hc1 : IntKind.i32.wrap (i : Int) = (i : Int) := by rw [IntKind.wrap_i32]; omega
            go_wp2_with fail
            have hmem := HMem.out.alloc (.cells #[.string (K i), .int .i32 (T i), .string (S i)] 76)
            have hJi := HJ.out _ _ _ _ hJi ((Turn.refl _ _ _ wr).alloc (.cells #[.string (K i), .int .i32 (T i), .string (S i)] 76))
            generalize wr.alloc (.cells #[.string (K i), .int .i32 (T i), .string (S i)] 76) = w5 at hmem hJi ⊢
            clear HMem o0 o1 o2 t1 n1
            have a0 := hmem.last.cell (i := q * 2) (by omega)
            have a1 := hmem.last.cell (i := q * 2 + 1) (by omega)
            rw [lastCell0] at a0
            rw [lastCell1] at a1
            have a2 := hmem.last.frozen (q * 2)
            have a3 := hmem.last.frozen (q * 2 + 1)
            have e0 := hmem.earl.cell (i := i) hlt
            have e1 := hmem.earl.frozen i
            have x0 := hmem.of.cell (i := i) hlt
            have x1 := hmem.inp.cell (i := 2) (by omega)
            have x2 := hmem.box.cell (i := 0) (by omega)
            rw [show (if (2 : Nat) = 4 then Value.pointer (some ⟨pb, 0, none⟩) else inpCell ob n g0 (txsTo T n).length ofb eb none 2) = .slice (some ⟨ofb, 0, none⟩) n n from rfl] at x1
            have HMem : Hid (ItMem K S T n ob ib ofb eb g0 bx W.heap.size g pb w1.heap.size f atf txf ef w5) := hmem
            clear hmem
            go_region
            go_wp2_with fail
            go_roundw
            case rel =>
              have hR' : ((K i).toList == [114]) = false := by
                have : (K i).toList = [119] := by simpa using hW
                rw [this]; rfl
              have hno : (readsB (bops K S T n) (i + 1)) = readsB (bops K S T n) i := readsB_succ_no _ _ hR'
              have hmem : ItMem K S T n ob ib ofb eb g0 bx W.heap.size g pb w1.heap.size f atf txf ef w5 := HMem.out
              refine ⟨i + 1, M', _, _, _, by omega, by go_num, ?_, ((hmem.setEarl HLOW.out i (atf q)).setLast HLOW.out q i ((rkOf T n i : Nat) : Int)).drewN 1, HL.out.write hlt hW HQ.out, HMi.out⟩
              rw [hno]
              have q1 := HMi.out (w1.heap.size + 1) (by simp [itBlock])
              have q2 := HMi.out (w1.heap.size + 1 + 1) (by simp [itBlock])
              exact HJ.out _ _ _ _ hJi (((((Turn.refl _ _ _ w5).setCell _ (by simpa using q2) (by simp; omega)).setCell _ (by simpa using q1) (by simp; omega)).setCell _ (by simpa using q1) (by simp; omega)).drewN 1)
            case measure => simp [intOf]; omega
          | false =>
            cases hR : (K i).toList == [114] with
            | false =>
              go_wp2_with fail
              go_roundw
              case rel =>
                have hno : (readsB (bops K S T n) (i + 1)) = readsB (bops K S T n) i := readsB_succ_no _ _ hR
                refine ⟨i + 1, M', atf, txf, ef, by omega, by go_num, ?_, HMem.out.alloc _, HL.out.other hW, HMi.out⟩
                rw [hno]
                exact HJ.out _ _ _ _ hJi ((Turn.refl _ _ _ wr).alloc _)
              case measure => simp [intOf]; omega
            | true =>
              have hnum := numAt_eq K S hlt (acts_r hR)
              have hql := List.idxOf_lt_length_of_mem (seenTo_mem K S hlt (acts_r hR))
              have hlk := HL.out.link _ (seenTo_mem K S hlt (acts_r hR))
              obtain ⟨q, hq⟩ : ∃ q, q = (seenTo K S n).idxOf (S i).data.toList := ⟨_, rfl⟩
              rw [hnum, ← hq] at n1
              rw [← hq] at hql hlk
              have hlx := HL.out.tx q hql
              have HQ : Hid (q = (seenTo K S n).idxOf (S i).data.toList) := hq
              clear hq hnum
              have hI0 : (0 : Int) ≤ (i : Int) := by omega
              have hI1 : (i : Int) < (n : Int) := by omega
              have hI2 : (0 : Int) ≤ (q : Int) := by omega
              have hI3 : (q : Int) < ((seenTo K S n).length : Int) := by omega
              have hm0 : ItMem K S T n ob ib ofb eb g0 bx W.heap.size g pb w1.heap.size f atf txf ef wr := HMem.out
              have a0 := hm0.last.cell (i := q * 2) (by omega)
              have a1 := hm0.last.cell (i := q * 2 + 1) (by omega)
              rw [lastCell0] at a0
              rw [lastCell1] at a1
              clear hm0
              go_wp2_with fail
              have hmem := HMem.out.alloc (.cells #[.string (K i), .int .i32 (T i), .string (S i)] 76)
              have hJi := HJ.out _ _ _ _ hJi ((Turn.refl _ _ _ wr).alloc (.cells #[.string (K i), .int .i32 (T i), .string (S i)] 76))
              have hs5 : (wr.alloc (.cells #[.string (K i), .int .i32 (T i), .string (S i)] 76)).heap.size = wr.heap.size + 1 := by simp
              have hprow := World.rowIs_alloc (wr.alloc (.cells #[.string (K i), .int .i32 (T i), .string (S i)] 76)) #[.int .i32 (atf q), .int .i32 (txf q)] 92 (fun j => .int .i32 (if j = 0 then atf q else txf q)) (fun i hi => by
                match i, hi with
                | 0, _ => rfl
                | 1, _ => rfl)
              rw [hs5] at hprow
              generalize wr.alloc (.cells #[.string (K i), .int .i32 (T i), .string (S i)] 76) = w5 at hmem hJi hs5 hprow ⊢
              clear HMem o0 o1 o2 t1 n1 a0 a1
              have HMem : Hid (ItMem K S T n ob ib ofb eb g0 bx W.heap.size g pb w1.heap.size f atf txf ef w5) := hmem
              clear hmem
              generalize hPB : wr.heap.size + 1 = PB at hs5 hprow ⊢
              have hpok : prevOk K S T n i (atf q) (txf q) := ⟨hlk, hlx⟩
              have hb5 := (Below.refl w5.heap.size w5).alloc (Nat.le_refl _) (.cells #[.int .i32 (atf q), .int .i32 (txf q)] 92)
              clear hlk hlx
              have hs6 : (w5.alloc (.cells #[.int .i32 (atf q), .int .i32 (txf q)] 92)).heap.size = PB + 1 := by simp [hs5]
              generalize w5.alloc (.cells #[.int .i32 (atf q), .int .i32 (txf q)] 92) = w6 at hb5 hprow hs6 ⊢
              refine block_wide m (by assumption) ?_
              intro K2 hK2
              go_loopw [] (fun wr => ∃ a x : Int, prevOk K S T n i a x ∧ Below w5.heap.size w5 wr ∧ wr.heap.size = PB + 1 ∧ wr.rowIs PB 92 2 (fun j => .int .i32 (if j = 0 then a else x))) (fun wr => (intOf ((wr.cell? ⟨PB, 0, none⟩).getD undef) + 1).toNat)
              case atStart => exact ⟨_, _, hpok, hb5, hs6, hprow⟩
              case round =>
                clear hpok hb5 hprow hs6 l1 l2 l3 l4 l5 l6 l7 l8 l9 l10
                obtain ⟨a, x, hpok, hb5, hs6, hprow⟩ := hrel
                have hm6 : ItMem K S T n ob ib ofb eb g0 bx W.heap.size g pb w1.heap.size f atf txf ef wr := HMem.out.same (fun b hb => hb5.block b (HMem.out.lt b hb))
                have p0 := hprow.cell (i := 0) (by omega)
                have p1 := hprow.cell (i := 1) (by omega)
                have p2 := hprow.frozen 0
                have p3 := hprow.frozen 1
                have x1 := hm6.inp.cell (i := 2) (by omega)
                have x2 := hm6.box.cell (i := 0) (by omega)
                have x3 := hm6.inp.cell (i := 3) (by omega)
                have z0 := hm6.non.cell (i := 0) (by omega)
                have z1 := hm6.non.cell (i := 1) (by omega)
                have l1 := hm6.ops.lt
                have l4 := hm6.last.lt
                have l5 := hm6.earl.lt
                have l6 := hm6.box.lt
                have l7 := hm6.inp.lt
                have l8 := hm6.of.lt
                have l9 := hm6.ends.lt
                have l10 := hm6.non.lt
                rw [if_pos rfl] at p0
                rw [if_neg (by omega)] at p1
                rw [show (if (2 : Nat) = 4 then Value.pointer (some ⟨pb, 0, none⟩) else inpCell ob n g0 (txsTo T n).length ofb eb none 2) = .slice (some ⟨ofb, 0, none⟩) n n from rfl] at x1
                rw [show (if (3 : Nat) = 4 then Value.pointer (some ⟨pb, 0, none⟩) else inpCell ob n g0 (txsTo T n).length ofb eb none 3) = .slice (some ⟨eb, 0, none⟩) (txsTo T n).length (txsTo T n).length from rfl] at x3
                have hP1 : w1.heap.size + 1 < PB := by have := HMem.out.last.lt; omega
                have d0 := hm6.last.cell (i := q * 2) (by omega)
                have d1 := hm6.last.cell (i := q * 2 + 1) (by omega)
                have d2 := hm6.last.frozen (q * 2)
                have d3 := hm6.last.frozen (q * 2 + 1)
                have hcs : a = -1 ∨ ∃ m : Nat, m < i ∧ a = m ∧ x = (rkOf T n m : Nat) := hpok.2.elim (fun h => .inl h.1) .inr
                have HP : Hid (prevOk K S T n i a x) := hpok
                clear hpok
                rcases hcs with rfl | ⟨m', hm', rfl, rfl⟩
                · go_wp2_with (go_quiet (fail))
                  have h7 := (hm6.drewN nq).setLast HLOW.out q (-1) x
                  have hw := prev_writer_none HP.out rfl
                  have q1 := HMi.out (w1.heap.size + 1) (by simp [itBlock])
                  have hJ7 := HJ.out _ _ _ _ hJi (((turn_of_below (M := M') (B := W.heap.size) (X := ib) hb5).drewN nq).setCell (a := ⟨w1.heap.size + 1, q * 2, none⟩) (.int .i32 (-1)) (by simpa using q1) (by simp; omega) |>.setCell (a := ⟨w1.heap.size + 1, q * 2 + 1, none⟩) (.int .i32 x) (by simpa using q1) (by simp; omega))
                  obtain ⟨fn, tmps, assign, body, hy, hRd⟩ := HY.out (readsB (bops K S T n) i).length i M' _ (reads_at _ hlt hR) hJ7
                  unfold encB at hy
                  rw [hw] at hy
                  gi_wp2
                  refine ⟨fun h => by simp [Fence.wide] at h, hRd.mono ?_⟩
                  rintro e w8 (⟨rfl, M2, hJ8, hH8, hM2⟩ | ⟨rfl, hJx8⟩)
                  · gi_wp2
                    go_wp2_with fail
                    go_roundw
                    case rel =>
                      have hyes : (readsB (bops K S T n) (i + 1)).length = (readsB (bops K S T n) i).length + 1 := by rw [readsB_succ_yes _ _ hR]; simp
                      refine ⟨i + 1, M2, _, _, _, by omega, by go_num, by rw [hyes]; exact hJ8, h7.same (fun b hb => hH8.held b (h7.lt b hb) (HMi.out b hb)), HL.out.read hW HQ.out HP.out.1 HP.out.2, fun b hb hm => ?_⟩
                      rcases hM2 b hm with h | h
                      · exact HMi.out b hb h
                      · have := h7.lt b hb; omega
                    case measure => simp [intOf]; omega
                  · gi_wp2
                    refine bodyPost_ret (results_none rfl _ _ _) rfl ?_
                    exact ⟨⟨_, rfl⟩, .inr hJx8⟩
                · have hge : (0 : Int) ≤ (m' : Int) := by omega
                  have hrk := rkOf_lt T (show m' < n by omega)
                  have hE := hm6.ends.cell (i := rkOf T n m' * 3 + 1) (by omega)
                  rw [HAB.out m' (by omega)] at hE
                  have h28 : ∀ W', W'.cell? ⟨eb, rkOf T n m' * 3 + 1, none⟩ = some (.int .i64 (abTo K T n (T m'))) → Calls Yba.prog 28 #[.slice (some ⟨eb, 0, none⟩) (txsTo T n).length (txsTo T n).length, .int .i32 (rkOf T n m' : Nat), .int .i64 ((i : Int) + 1)] W' fun e w' => e = .returned (.bool (deadB (bops K S T n) m' i)) ∧ w' = W' := fun W' hE => by
                    rw [dead_abTo]
                    exact aborted28 eb _ _ _ _ W' hrk hE
                  cases hdd : deadB (bops K S T n) m' i with
                  | true =>
                    rw [hdd] at h28
                    rcases prev_back HL.out HP.out hm' rfl hdd with ⟨he, hok⟩ | ⟨e, he, hem, hok⟩
                    · have y0 := hm6.earl.cell (i := m') (by omega)
                      rw [he] at y0
                      have HK : Hid (prevOk K S T n i (-1) (-1)) := hok
                      clear hok he
                      go_wp2_with (go_quiet ((go_at_call 28; exact Calls.quiet_of_same (h28 _ hE))))
                      go_roundw
                      case rel => exact ⟨-1, -1, HK.out, ((below_drewN hb5 _).setCell (by simp; omega) _).setCell (by simp; omega) _, by simpa using hs6, rowPair hprow nq (-1) (-1)⟩
                      case measure =>
                        rw [(rowPair hprow nq (-1) (-1)).cell (i := 0) (by omega), p0]
                        simp [intOf]
                        try omega
                    · have y0 := hm6.earl.cell (i := m') (by omega)
                      rw [he] at y0
                      have y1 := hm6.of.cell (i := e) (by omega)
                      have hge2 : (0 : Int) ≤ (e : Int) := by omega
                      have HK : Hid (prevOk K S T n i e (rkOf T n e : Nat)) := hok
                      clear hok he
                      go_wp2_with (go_quiet ((go_at_call 28; exact Calls.quiet_of_same (h28 _ hE))))
                      go_roundw
                      case rel => exact ⟨(e : Int), ((rkOf T n e : Nat) : Int), HK.out, ((below_drewN hb5 _).setCell (by simp; omega) _).setCell (by simp; omega) _, by simpa using hs6, rowPair hprow nq ((e : Int)) (((rkOf T n e : Nat) : Int))⟩
                      case measure =>
                        rw [(rowPair hprow nq ((e : Int)) (((rkOf T n e : Nat) : Int))).cell (i := 0) (by omega), p0]
                        simp [intOf]
                        try omega
                  | false =>
                    rw [hdd] at h28
                    go_wp2_with (go_quiet ((go_at_call 28; exact Calls.quiet_of_same (h28 _ hE))))
                    have h7 := (hm6.drewN nq).setLast HLOW.out q (m' : Int) ((rkOf T n m' : Nat) : Int)
                    have hw := prev_writer_some HP.out rfl hdd
                    have q1 := HMi.out (w1.heap.size + 1) (by simp [itBlock])
                    have hJ7 := HJ.out _ _ _ _ hJi (((turn_of_below (M := M') (B := W.heap.size) (X := ib) hb5).drewN nq).setCell (a := ⟨w1.heap.size + 1, q * 2, none⟩) (.int .i32 (m' : Int)) (by simpa using q1) (by simp; omega) |>.setCell (a := ⟨w1.heap.size + 1, q * 2 + 1, none⟩) (.int .i32 ((rkOf T n m' : Nat) : Int)) (by simpa using q1) (by simp; omega))
                    obtain ⟨fn, tmps, assign, body, hy, hRd⟩ := HY.out (readsB (bops K S T n) i).length i M' _ (reads_at _ hlt hR) hJ7
                    unfold encB at hy
                    rw [hw] at hy
                    gi_wp2
                    refine ⟨fun h => by simp [Fence.wide] at h, hRd.mono ?_⟩
                    rintro e w8 (⟨rfl, M2, hJ8, hH8, hM2⟩ | ⟨rfl, hJx8⟩)
                    · gi_wp2
                      go_wp2_with fail
                      go_roundw
                      case rel =>
                        have hyes : (readsB (bops K S T n) (i + 1)).length = (readsB (bops K S T n) i).length + 1 := by rw [readsB_succ_yes _ _ hR]; simp
                        refine ⟨i + 1, M2, _, _, _, by omega, by go_num, by rw [hyes]; exact hJ8, h7.same (fun b hb => hH8.held b (h7.lt b hb) (HMi.out b hb)), HL.out.read hW HQ.out HP.out.1 HP.out.2, fun b hb hm => ?_⟩
                        rcases hM2 b hm with h | h
                        · exact HMi.out b hb h
                        · have := h7.lt b hb; omega
                      case measure => simp [intOf]; omega
                    · gi_wp2
                      refine bodyPost_ret (results_none rfl _ _ _) rfl ?_
                      exact ⟨⟨_, rfl⟩, .inr hJx8⟩
        · have : i = n := by omega
          subst this
          go_wp2_with fail
          go_end0
          exact ⟨⟨_, rfl⟩, .inl ⟨M', hJi⟩⟩

end Go.Proofs.Ybulkbik
