import Derived.Test.YbulkbikCmp
namespace Go.Proofs.Ybulkbik
open Go.RowKit Go.Maps Go.Sort Go.Shelf

theorem sw_other {α : Type} [Inhabited α] (enc : α → Value) (w : World) (blk off n : Nat) (d : Array α) (os : Array Obj) {k : Nat} (hk : k < w.heap.size) (hne : k ≠ blk) :
    (sortWorld enc w blk off n d os).heap[k]? = w.heap[k]? := by
  unfold sortWorld
  rw [heap_grow_old _ _ (by simpa using hk)]
  show (w.heap.modify blk _)[k]? = w.heap[k]?
  rw [Array.getElem?_modify, if_neg (by omega)]

theorem sw_size {α : Type} [Inhabited α] (enc : α → Value) (w : World) (blk off n : Nat) (d : Array α) (os : Array Obj) : w.heap.size ≤ (sortWorld enc w blk off n d os).heap.size := by
  unfold sortWorld
  simp

theorem sw_row {α : Type} [Inhabited α] (enc : α → Value) (w : World) (blk n : Nat) (d : Array α) (os : Array Obj) {t m : Nat} {f : Nat → Value} (h : w.rowIs blk t m f) (hd : d.size = m) :
    (sortWorld enc w blk 0 n d os).rowIs blk t m (fun r => enc d[r]!) := by
  have hlt := h.lt
  obtain ⟨c, hb, hs, hc⟩ := h
  refine ⟨putCells enc 0 d c, ?_, ?_, fun i hi => ?_⟩
  · unfold sortWorld
    rw [heap_grow_old _ _ (by simpa using hlt)]
    show (w.heap.modify blk _)[blk]? = _
    rw [Array.getElem?_modify, if_pos rfl, hb]
    rfl
  · simp [putCells, hs]
  · have := hc i hi
    simp [putCells, Array.getElem?_mapIdx, this, hd, hi]

theorem sw_grown {α : Type} [Inhabited α] (enc : α → Value) (w : World) (blk off n : Nat) (d : Array α) (os : Array Obj) : w.grownBy (sortWorld enc w blk off n d os) (some blk) :=
  ⟨rfl, rfl, rfl, sw_size enc w blk off n d os, fun k hk hne => sw_other enc w blk off n d os hk (fun e => hne (by rw [e]))⟩

theorem extract_all {α : Type} (a : Array α) {m : Nat} (h : a.size = m) : a.extract 0 m = a := by
  subst h; simp

/-- The comparison of two numbers by the transactions that they stand for. -/
def cfL (L : List Int) {m : Nat} (x y : Fin m) : Int := cmpI (L.getD x.1 0) (L.getD y.1 0)

theorem ltOf_cfL (L : List Int) {m : Nat} (x y : Fin m) : ltOf (cfL L) x y = decide (L.getD x.1 0 < L.getD y.1 0) := by
  unfold ltOf cfL cmpI
  by_cases h1 : L.getD x.1 0 < L.getD y.1 0
  · simp only [h1, if_true]; decide
  · by_cases h2 : L.getD y.1 0 < L.getD x.1 0
    · simp only [h1, h2, if_true, if_false]; decide
    · simp only [h1, h2, if_false]; decide

theorem swo_cfL (L : List Int) {m : Nat} : SWO (ltOf (cfL (m := m) L)) := {
  irrefl := fun x => by rw [ltOf_cfL]; simp
  trans := fun x y z h1 h2 => by rw [ltOf_cfL, decide_eq_true_eq] at *; omega
  ntrans := fun x y z h1 h2 => by rw [ltOf_cfL, decide_eq_false_iff_not] at *; omega }

set_option maxHeartbeats 400000 in
theorem sort34 (B bx g m cp : Nat) (L : List Int) (w : World) (hm : 0 < m) (hm2 : m ≤ 1000000) (hrow : w.rowIs B 21 m (fun j => .int .i32 (j : Nat))) (hbox : w.cell? ⟨bx, 0, none⟩ = some (.slice (some ⟨g, 0, none⟩) m cp))
    (hc : ∀ j, j < m → w.cell? ⟨g, j, none⟩ = some (.int .i32 (L.getD j 0))) (h1 : bx ≠ B) (h2 : g ≠ B) :
    Calls Yba.prog 34 #[.slice (some ⟨B, 0, none⟩) m m, .func (.func 35) #[] #[.pointer (some ⟨bx, 0, none⟩)]] w fun e w' => e = .returned (.tuple #[]) ∧
      ∃ P : List Nat, P.Perm (List.range m) ∧ (∀ i j, i < j → j < m → L.getD (P.getD i 0) 0 ≤ L.getD (P.getD j 0) 0) ∧ w'.rowIs B 21 m (fun r => .int .i32 (P.getD r 0 : Nat)) ∧ w.grownBy w' (some B) := by
  have inst : Inhabited (Fin m) := ⟨⟨0, hm⟩⟩
  have eg : ∀ args w, (callFunc 35 args).run Yba.prog w = .ok (.enter 35 args) w := enters_of Yba.func35 (by kernel_rfl) rfl
  have hd : (Array.ofFn (fun i : Fin m => i)).size = m := by simp
  have hat : ∀ j (hj : j < m), (Array.ofFn (fun i : Fin m => i))[j]! = ⟨j, hj⟩ := fun j hj => by
    rw [getElem!_pos _ _ (by simpa using hj)]
    simp
  have hbxl := World.block_lt_of_cell? w _ hbox
  have hcmp : CmpLays1 Yba.prog 35 #[.pointer (some ⟨bx, 0, none⟩)] (fun x : Fin m => Value.int .i32 (x.1 : Nat)) (cfL L) B 0 (Array.ofFn (fun i : Fin m => i)).size w := by
    intro q os dk hdk x y
    have hx := hc x.1 x.2
    have hy := hc y.1 y.2
    refine (clos35 x.1 y.1 m cp bx g (fun j => L.getD j 0) _ x.2 y.2 hm2 ?_ ?_ ?_).mono ?_
    · rw [World.cell?_of_block (w := w) (sw_other _ _ _ _ _ _ _ hbxl h1)]; exact hbox
    · rw [World.cell?_of_block (w := w) (sw_other _ _ _ _ _ _ _ (World.block_lt_of_cell? w _ hx) h2)]; exact hx
    · rw [World.cell?_of_block (w := w) (sw_other _ _ _ _ _ _ _ (World.block_lt_of_cell? w _ hy) h2)]; exact hy
    · rintro e w' ⟨rfl, q', rfl⟩
      exact ⟨rfl, q', #[], by simp⟩
  have hH : Holds (fun x : Fin m => Value.int .i32 (x.1 : Nat)) w B 0 (Array.ofFn (fun i : Fin m => i)) := by
    intro j hj
    rw [hd] at hj
    rw [Nat.zero_add, hat j hj]
    exact ⟨hrow.cell hj, hrow.frozen j⟩
  have hcon := Any.slices_SortFunc Yba.sortF (fun x : Fin m => Value.int .i32 (x.1 : Nat)) (fun _ => rfl) (cfL L) (swo_cfL L) 35 #[.pointer (some ⟨bx, 0, none⟩)] B 0 m (Array.ofFn (fun i : Fin m => i)) w eg hcmp hH hrow.lt (by rw [hd]; omega)
  change Calls Yba.prog 34 _ _ _ at hcon
  rw [hd] at hcon
  refine hcon.mono ?_
  rintro e w' ⟨rfl, d', n, os, hp, hs, rfl⟩
  obtain ⟨hsz, _, hperm⟩ := hp
  rw [hd] at hsz
  refine ⟨rfl, d'.toList.map (fun x => x.1), ?_, ?_, ?_, sw_grown _ _ _ _ _ _ _⟩
  · have e1 : (d'.extract 0 m).toList = d'.toList := by rw [extract_all d' hsz]
    have e2 : ((Array.ofFn (fun i : Fin m => i)).extract 0 m).toList = (Array.ofFn (fun i : Fin m => i)).toList := by rw [extract_all _ hd]
    rw [e1, e2] at hperm
    refine (hperm.map (fun x => x.1)).trans ?_
    have : (Array.ofFn (fun i : Fin m => i)).toList.map (fun x => x.1) = List.range m := by
      apply List.ext_getElem
      · simp
      · intro i h1 h2
        simp
    rw [this]
  · intro i j hij hj
    have := hs i j (Nat.zero_le _) hij hj
    rw [ltOf_cfL, decide_eq_false_iff_not] at this
    have ei : (d'.toList.map (fun x => x.1)).getD i 0 = (d'[i]!).1 := by
      rw [getElem!_pos d' i (by omega)]
      simp [show i < d'.size by omega]
    have ej : (d'.toList.map (fun x => x.1)).getD j 0 = (d'[j]!).1 := by
      rw [getElem!_pos d' j (by omega)]
      simp [show j < d'.size by omega]
    rw [ei, ej]
    omega
  · refine (sw_row _ _ _ _ _ _ hrow hsz).congr (fun i hi => ?_)
    have ei : (d'.toList.map (fun x => x.1)).getD i 0 = (d'[i]!).1 := by
      rw [getElem!_pos d' i (by omega)]
      simp [show i < d'.size by omega]
    rw [ei]

end Go.Proofs.Ybulkbik
