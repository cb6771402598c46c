import Derived.Test.YbulkbikItems19
import Derived.Maps.AppendAt
namespace Go.Proofs.Ybulkbik
open Go.RowKit Go.Maps

/-- The items named so far, as the strings that the law keeps. -/
def seenB (K S : Nat → ByteArray) : Nat → List ByteArray
  | 0 => []
  | k + 1 => if actsB (K k) = true ∧ (S k).data.toList ∉ (seenB K S k).map (·.data.toList) then seenB K S k ++ [S k] else seenB K S k

theorem seenB_map (K S : Nat → ByteArray) (k : Nat) : (seenB K S k).map (·.data.toList) = seenTo K S k := by
  induction k with
  | zero => rfl
  | succ k ih =>
    unfold seenB seenTo
    rw [ih]
    split
    · simp [ih]
    · exact ih

theorem seenB_len (K S : Nat → ByteArray) (k : Nat) : (seenB K S k).length = (seenTo K S k).length := by
  rw [← seenB_map]; simp

/-- What the input is made of: '&input{ops: built}'. -/
def inCell (v : Value) (j : Nat) : Value := if j = 0 then v else if j = 4 then .pointer none else .slice none 0 0

theorem num_found (K S : Nat → ByteArray) (k q : Nat) (hact : actsB (K k) = true) (hq : q < (seenB K S k).length) (hno : ∀ i, i < q → ¬ ((seenB K S k).getD i ⟨#[]⟩).data.toList = (S k).data.toList)
    (he : ((seenB K S k).getD q ⟨#[]⟩).data.toList = (S k).data.toList) : numAt K S k = q ∧ (S k).data.toList ∈ seenTo K S k := by
  have hl : (seenTo K S k).length = (seenB K S k).length := (seenB_len K S k).symm
  have hat : ∀ i (h : i < (seenB K S k).length), (seenTo K S k)[i]'(by omega) = ((seenB K S k).getD i ⟨#[]⟩).data.toList := fun i h => by
    have e := seenB_map K S k
    simp only [← e]
    simp [h]
  have hm : (S k).data.toList ∈ seenTo K S k := List.mem_iff_getElem.2 ⟨q, by omega, by rw [hat q hq]; exact he⟩
  refine ⟨?_, hm⟩
  have e : (seenTo K S k).idxOf (S k).data.toList = q := by
    have hi := List.idxOf_lt_length_of_mem hm
    have hg := List.getElem_idxOf hi
    have h1 : ¬ (seenTo K S k).idxOf (S k).data.toList < q := fun h => hno _ h (by rw [← hat _ (by omega)]; exact hg)
    have h2 : ¬ q < (seenTo K S k).idxOf (S k).data.toList := fun h => by
      have := List.not_of_lt_findIdx (p := fun x => x == (S k).data.toList) (xs := seenTo K S k) (i := q) h
      simp only [hat q hq, he] at this
      simp at this
    omega
  simp [numAt, hact, e]

theorem num_none (K S : Nat → ByteArray) (k : Nat) (hact : actsB (K k) = true) (hno : ∀ i, i < (seenB K S k).length → ¬ ((seenB K S k).getD i ⟨#[]⟩).data.toList = (S k).data.toList) :
    numAt K S k = (seenB K S k).length ∧ (S k).data.toList ∉ seenTo K S k := by
  have hm : (S k).data.toList ∉ seenTo K S k := fun h => by
    rw [← seenB_map] at h
    obtain ⟨x, hx, e⟩ := List.mem_map.1 h
    obtain ⟨i, hi, rfl⟩ := List.mem_iff_getElem.1 hx
    exact hno i hi (by simpa [hi] using e)
  exact ⟨by rw [← num_new K S k hact hm, seenB_len], hm⟩

theorem seenB_old (K S : Nat → ByteArray) (k : Nat) (hm : (S k).data.toList ∈ seenTo K S k) : seenB K S (k + 1) = seenB K S k := by
  rw [seenB, if_neg]
  rw [seenB_map]
  exact fun h => h.2 hm
theorem seenB_new (K S : Nat → ByteArray) (k : Nat) (ha : actsB (K k) = true) (hm : (S k).data.toList ∉ seenTo K S k) : seenB K S (k + 1) = seenB K S k ++ [S k] := by
  rw [seenB, if_pos]
  rw [seenB_map]
  exact ⟨ha, hm⟩

/-- An element of a row of strings that the call owns. -/
theorem own_at {w : World} {base : Nat} {a : Option Addr} {cp : Nat} {l : List ByteArray} (h : w.ownsRow base 9 1 (.slice a l.length cp) l.length (l.map Value.string)) {q : Nat} (hq : q < l.length) :
    ∃ gs, a = some ⟨gs, 0, none⟩ ∧ base ≤ gs ∧ gs < w.heap.size ∧ w.cell? ⟨gs, q, none⟩ = some (.string (l.getD q ⟨#[]⟩)) := by
  rcases h.2 with ⟨e, h0⟩ | ⟨g, cap, cur, e, hb, hg, r⟩
  · omega
  · simp at e
    obtain ⟨rfl, rfl⟩ := e
    refine ⟨g, rfl, hb, (h.lt g rfl).2, ?_⟩
    have := h.cells (g := g) rfl q (.string (l.getD q ⟨#[]⟩)) (by simp [hq])
    rwa [Addr.add_lit, Nat.zero_add] at this

/-- The value of a row that is not empty. -/
theorem own_form {w : World} {base e size : Nat} {v : Value} {n : Nat} {xs : List Value} (h : w.ownsRow base e size v n xs) (hn : 0 < n) : ∃ a cp, v = .slice a n cp := by
  rcases h.2 with ⟨_, h0⟩ | ⟨g, cap, cur, e, _⟩
  · omega
  · exact ⟨_, _, e⟩

/-- Behind an append onto a row of the call's own (two new blocks ahead of it): a cell below the row's base. -/
theorem far_cell {w w' : World} {base e size : Nat} {v : Value} {n : Nat} {xs : List Value} {o1 o2 : Obj} (h : w.ownsRow base e size v n xs) (hg : ((w.alloc o1).alloc o2).grownBy w' v.ownBlock) {p : Addr} {u : Value} (hp : p.block < base) (hl : p.block < w.heap.size)
    (hc : w.cell? p = some u) : w'.cell? p = some u := by
  refine hg.cell ?_ (fun e => by have := (h.lt _ e.symm).1; omega)
  rw [World.cell?_alloc_lt _ _ _ (by simp; omega), World.cell?_alloc_lt _ _ _ hl]
  exact hc

theorem info9 : (Yba.prog.info? 9).map (fun i => (i.zero, i.size, i.bytes)) = some (some (.string ⟨#[]⟩), 1, 16) := by kernel_rfl

set_option maxRecDepth 100000 in
set_option maxHeartbeats 1000000 in
theorem numbers7 (a0 : Option Addr) (n cap : Nat) (K : Nat → ByteArray) (T : Nat → Int) (S : Nat → ByteArray) (w : World) (hn : n ≤ 1024) (hcb : CBuilt (.slice a0 n cap) n K T S w) (hS : ∀ i, i < n → (S i).size ≤ maxLen) :
    Calls Yba.prog 7 #[.slice a0 n cap] w fun e w' => e = .returned (.bool true) ∧ Below w.heap.size w w' := by
  go_enter Yba.func7, Yba.ntmps7
  go_wp2_with fail
  refine Calls.mono hcb ?_
  rintro e w1 ⟨rfl, hb1, hr1⟩
  have hl1 := hr1.lt
  go_wp2_with fail
  have hin1 : (w1.alloc (.cells #[.slice (some ⟨w.heap.size, 0, none⟩) n n, .slice none 0 0, .slice none 0 0, .slice none 0 0, .pointer none] 69)).rowIs w1.heap.size 69 5 (inCell (.slice (some ⟨w.heap.size, 0, none⟩) n n)) :=
    World.rowIs_alloc w1 #[.slice (some ⟨w.heap.size, 0, none⟩) n n, .slice none 0 0, .slice none 0 0, .slice none 0 0, .pointer none] 69 _ (fun i hi => by
      match i, hi with
      | 0, _ => rfl
      | 1, _ => rfl
      | 2, _ => rfl
      | 3, _ => rfl
      | 4, _ => rfl)
  refine (items19_new w1.heap.size w.heap.size n _ K S T _ hn (hr1.alloc _) hS hin1 rfl rfl).mono ?_
  rintro e w2 ⟨g, pb, rfl, hg2, hin2, hpb2, hrow2, hgN, hpbN⟩
  simp only [World.size_alloc] at hgN hpbN
  have hlg := hrow2.lt
  have hlpb := hpb2.lt
  have hlin := hin2.lt
  have hops2 := rowIs_grown (hr1.alloc _) hg2 (by simp <;> omega)
  have hlo := hops2.lt
  obtain ⟨i9, hi9, hz90, hz91, hz92⟩ := info_parts info9
  go_wp2_with fail
  go_loopw [6, 31] (fun v i wr => ∃ (k : Nat) (a : Option Addr) (cp : Nat), k ≤ n ∧ i = .int .i64 k ∧ v = .slice a (seenB K S k).length cp ∧
      wr.ownsRow (w2.heap.size + 1) 9 1 (.slice a (seenB K S k).length cp) (seenB K S k).length ((seenB K S k).map Value.string) ∧
      Below (w2.heap.size + 1) (w2.alloc (.cells #[.int .i64 ((seenTo K S n).length : Nat), .slice (some ⟨g, 0, none⟩) n n] 71)) wr)
    (fun _ i _ => n - (intOf i).toNat)
  case atStart => exact ⟨0, none, 0, Nat.zero_le _, rfl, rfl, World.ownsRow_nil _ _ _ _, Below.refl _ _⟩
  case round =>
    obtain ⟨k, a, cp, hk, rfl, rfl, hown, hbel⟩ := hrel
    have hws := hbel.size
    simp only [World.size_alloc] at hws
    have cg0 := (hbel.cell (p := ⟨w2.heap.size, 0, none⟩) (by simp)).trans (World.cell?_alloc_at (w := w2) _ _ _ _ rfl)
    have cg1 := (hbel.cell (p := ⟨w2.heap.size, 1, none⟩) (by simp)).trans (World.cell?_alloc_at (w := w2) _ _ _ _ rfl)
    simp only [List.getElem?_toArray, List.getElem?_cons_zero, List.getElem?_cons_succ] at cg0 cg1
    by_cases hlt : k < n
    · have o0 : wr.cell? ⟨w.heap.size, k * 3, none⟩ = some (.string (K k)) := by
        rw [hbel.cell (by exact Nat.lt_succ_of_lt hlo), (hops2.alloc _).cell (by omega), opCell0]
      have o1 : wr.cell? ⟨w.heap.size, k * 3 + 1, none⟩ = some (.int .i32 (T k)) := by
        rw [hbel.cell (by exact Nat.lt_succ_of_lt hlo), (hops2.alloc _).cell (by omega), opCell1]
      have o2 : wr.cell? ⟨w.heap.size, k * 3 + 2, none⟩ = some (.string (S k)) := by
        rw [hbel.cell (by exact Nat.lt_succ_of_lt hlo), (hops2.alloc _).cell (by omega), opCell2]
      have hgk : wr.cell? ⟨g, k, none⟩ = some (.int .i32 (numAt K S k)) := by
        rw [hbel.cell (by exact Nat.lt_succ_of_lt hlg), (hrow2.alloc _).cell hlt]
      have hwo : w.heap.size < wr.heap.size := by omega
      have hwg : g < wr.heap.size := by omega
      have hw2 : w2.heap.size < wr.heap.size := by omega
      have hsl : (seenB K S k).length ≤ 1024 := by have := seenTo_le K S k; rw [seenB_len]; omega
      cases hact : actsB (K k)
      · have hnum : numAt K S k = -1 := by simp [numAt, hact]
        rw [hnum] at hgk
        have hsb : seenB K S (k + 1) = seenB K S k := by simp [seenB, hact]
        by_cases h99 : (K k).toList = [99]
        · go_wp2_with fail
          go_roundw
          case rel => exact ⟨k + 1, a, cp, by omega, by go_num, by rw [hsb], by rw [hsb]; exact hown.alloc _, hbel.alloc (by omega) _⟩
          case measure => simp [intOf]; omega
        · have h97 : (K k).toList = [97] := by simpa [actsB, h99] using hact
          go_wp2_with fail
          go_roundw
          case rel => exact ⟨k + 1, a, cp, by omega, by go_num, by rw [hsb], by rw [hsb]; exact hown.alloc _, hbel.alloc (by omega) _⟩
          case measure => simp [intOf]; omega
      · have h99 : ((K k).toList == [99]) = false := by simp [actsB] at hact; simpa using hact.1
        have h97 : ((K k).toList == [97]) = false := by simp [actsB] at hact; simpa using hact.2
        go_wp2_with fail
        go_loop [9, 49] (fun want j => ∃ q : Nat, q ≤ (seenB K S k).length ∧ j = .int .i64 q ∧ want = .int .i32 (seenB K S k).length ∧ ∀ i, i < q → ¬ ((seenB K S k).getD i ⟨#[]⟩).data.toList = (S k).data.toList)
          (fun _ j => (seenB K S k).length - (intOf j).toNat)
        case atStart => exact ⟨0, Nat.zero_le _, rfl, rfl, fun i hi => absurd hi (Nat.not_lt_zero _)⟩
        case round =>
          obtain ⟨q, hq, rfl, rfl, hno⟩ := hrel
          have HNo : Hid (∀ i, i < q → ¬ ((seenB K S k).getD i ⟨#[]⟩).data.toList = (S k).data.toList) := hno
          clear hno
          by_cases hql : q < (seenB K S k).length
          · obtain ⟨gs, rfl, hgs, hgl, hcq⟩ := own_at hown hql
            by_cases heq : ((seenB K S k).getD q ⟨#[]⟩).data.toList = (S k).data.toList
            · have heqB : (((seenB K S k).getD q ⟨#[]⟩).toList == (S k).toList) = true := by rw [ByteArray.toList_eq, ByteArray.toList_eq, heq]; simp
              obtain ⟨hnum, hmem⟩ := num_found K S k q hact hql HNo.out heq
              rw [hnum] at hgk
              have Hm := (show Hid _ from hmem)
              clear hnum hmem heq
              generalize (seenB K S k).getD q ⟨#[]⟩ = sq at *
              have hqb : ((q : Int) == ((seenB K S k).length : Int)) = false := by simp; omega
              go_wp2_with fail
              go_roundw
              case rel =>
                have hsb : seenB K S (k + 1) = seenB K S k := seenB_old K S k Hm.out
                exact ⟨k + 1, some ⟨gs, 0, none⟩, cp, by omega, by go_num, by rw [hsb], by rw [hsb]; exact hown.alloc _, hbel.alloc (by omega) _⟩
              case measure => simp [intOf]; omega
            · have heqB : (((seenB K S k).getD q ⟨#[]⟩).toList == (S k).toList) = false := by rw [ByteArray.toList_eq, ByteArray.toList_eq]; simpa using heq
              have HE : Hid (¬ ((seenB K S k).getD q ⟨#[]⟩).data.toList = (S k).data.toList) := heq
              clear heq
              generalize hsq : (seenB K S k).getD q ⟨#[]⟩ = sq at *
              have HSQ : Hid ((seenB K S k).getD q ⟨#[]⟩ = sq) := hsq
              clear hsq
              go_wp2_with fail
              go_round
              case rel =>
                refine ⟨q + 1, by omega, by go_num, rfl, fun i hi => ?_⟩
                by_cases hiq : i = q
                · rw [hiq, HSQ.out]; exact HE.out
                · exact HNo.out i (by omega)
              case measure => simp [intOf]; omega
          · have hqe : q = (seenB K S k).length := by omega
            obtain ⟨hnum, hmem⟩ := num_none K S k hact (hqe ▸ HNo.out)
            rw [hnum] at hgk
            have Hm : Hid ((S k).data.toList ∉ seenTo K S k) := hmem
            have HL : Hid ((seenB K S k).length ≤ 1024) := hsl
            clear hnum hmem HNo
            subst hqe
            go_wp2_with (first
              | (at_builtin; refine wpList_append_own _ rfl _ _ 73 rfl (w2.heap.size + 1) 9 i9 (.string ⟨#[]⟩) 1 16 Yba.underlying73 hi9 hz90 hz91 hz92 rfl (by decide) _ _ _ rfl ((hown.alloc _).alloc _) ⟨wr.heap.size + 1, 0, none⟩ 1 1 [.string (S k)] rfl rfl (by have := cell_one_new (wr.alloc (.cells #[.string (K k), .int .i32 (T k), .string (S k)] 76)) (.string (S k)) 9; simpa using this) (by simp [Value.oneCell']) (by unfold maxLen; omega) (by omega) (by simp; omega) ?_; intro v' w3 hown' hgrow hnil; have y1 := far_cell hown hgrow (p := ⟨w2.heap.size, 1, none⟩) (by simp) (by simp; omega) cg1; have y2 := far_cell hown hgrow (p := ⟨g, k, none⟩) (by simp; omega) (by simp; omega) hgk; have HO : Hid _ := hown'; have HG : Hid _ := hgrow; clear hown' hgrow hnil))
            go_roundw
            case rel =>
              have hsb : seenB K S (k + 1) = seenB K S k ++ [S k] := seenB_new K S k hact Hm.out
              have hg3 := HG.out
              obtain ⟨a3, cp3, hv3⟩ := own_form HO.out (by omega)
              have hL : (seenB K S (k + 1)).length = (seenB K S k).length + 1 := by rw [hsb]; simp
              refine ⟨k + 1, a3, cp3, by omega, by go_num, by rw [hL]; exact hv3, ?_, ?_⟩
              · have := HO.out
                rw [hv3] at this
                rw [hL, hsb, List.map_append]
                exact this
              · exact ((hbel.alloc (by omega) _).alloc (by simp; omega) _).grown hg3 (by simp; omega) (fun j hj => (hown.lt j hj).1)
            case measure => simp [intOf]; omega
    · have hkn : k = n := by omega
      subst hkn
      have hle : (((seenTo K S k).length : Int) != ((seenB K S k).length : Int)) = false := by rw [seenB_len]; simp
      have hin4 : wr.rowIs w1.heap.size 69 5 (fun j => if j = 4 then .pointer (some ⟨pb, 0, none⟩) else inCell (.slice (some ⟨w.heap.size, 0, none⟩) k k) j) :=
        (hin2.alloc _).of_block (hbel.block _ (by omega))
      have hpb4 : wr.rowIs pb 71 2 (itCell (seenTo K S k).length g k) := (hpb2.alloc _).of_block (hbel.block _ (by omega))
      have hrow4 : wr.rowIs g 21 k (fun j => .int .i32 (numAt K S j)) := (hrow2.alloc _).of_block (hbel.block _ (by omega))
      have c4 : wr.cell? ⟨w1.heap.size, 4, none⟩ = some (.pointer (some ⟨pb, 0, none⟩)) := hin4.cell (i := 4) (by omega)
      have hw2 : w2.heap.size < wr.heap.size := by omega
      go_wp2_with fail
      refine (items19_held w1.heap.size pb _ ((seenTo K S k).length : Nat) (some ⟨g, 0, none⟩) k k _ c4 hpb4 rfl rfl).mono ?_
      rintro e w4 ⟨rfl, rfl⟩
      go_wp2_with fail
      refine (csame20 g k _ (numAt K S) _ hn ((hrow4.alloc _).alloc _)).mono ?_
      rintro e w5 ⟨rfl, hb5⟩
      go_wp2_with fail
      go_ret
      refine ⟨rfl, ?_⟩
      have hb6 : Below w.heap.size w2 wr := ((Below.refl _ _).alloc (by omega) _).trans (hbel.mono (by omega))
      have hb7 : Below w.heap.size wr w5 := (((Below.refl _ _).alloc (by omega) _).alloc (by simp; omega) _).trans (hb5.mono (by simp; omega))
      exact ((((hb1.alloc (by omega) _).grown hg2 (by simp; omega) (fun j hj => by cases hj; omega)).trans hb6).trans hb7)

set_option maxHeartbeats 400000 in
theorem numbers7_big (a0 : Option Addr) (n cap : Nat) (w : World) (hn : 1024 < n) : Calls Yba.prog 7 #[.slice a0 n cap] w fun e w' => e = .returned (.bool true) ∧ w' = w := by
  go_enter Yba.func7, Yba.ntmps7
  go_wp2_with fail
  go_ret
  exact ⟨rfl, rfl⟩

end Go.Proofs.Ybulkbik
