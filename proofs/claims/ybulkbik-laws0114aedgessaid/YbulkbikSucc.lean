import Derived.Test.YbulkbikAdj
import Derived.Test.YbulkbikSoSort
/-! successors (46): each node's list sorted, and each once. -/
namespace Go.Proofs.Ybulkbik
attribute [local go_sem ↓] Go.wp_at_zero Go.wp_at_succ
open Go.RowKit Go.Maps Go.Sort

theorem at_other {w W : World} {blk off : Nat} {d : Array Int} (h : SI w blk off d W) {k : Nat} (hk : k < w.heap.size) (hne : k ≠ blk) : W.heap[k]? = w.heap[k]? := by
  obtain ⟨m, os, rfl⟩ := h
  rw [heap_grow_old _ _ (by simpa using hk)]
  show (w.heap.modify blk _)[k]? = w.heap[k]?
  rw [Array.getElem?_modify, if_neg (by omega)]

theorem at_row {w W : World} {blk off t N : Nat} {d : Array Int} {F : Nat → Int} (h : SI w blk off d W) (hr : w.rowIs blk t N (fun i => .int .i32 (F i))) :
    W.rowIs blk t N (fun i => .int .i32 (if off ≤ i ∧ i < off + d.size then d[i - off]! else F i)) := by
  have hlt := hr.lt
  obtain ⟨c, hc, hs, hcell⟩ := hr
  obtain ⟨m, os, rfl⟩ := h
  refine ⟨putCells (Value.int .i32) off d c, ?_, by simp [putCells, hs], fun i hi => ?_⟩
  · rw [heap_grow_old _ _ (by simpa using hlt)]
    show (w.heap.modify blk _)[blk]? = _
    rw [Array.getElem?_modify, if_pos rfl, hc]
    rfl
  · have := hcell i hi
    simp only [putCells, Array.getElem?_mapIdx, this, Option.map_some]
    by_cases e : off ≤ i ∧ i < off + d.size
    · rw [if_pos e, if_pos e]
    · rw [if_neg e, if_neg e]

theorem at_grown {w W : World} {blk off : Nat} {d : Array Int} (h : SI w blk off d W) : w.grownBy W (some blk) :=
  ⟨by obtain ⟨m, os, rfl⟩ := h; rfl, by obtain ⟨m, os, rfl⟩ := h; rfl, by obtain ⟨m, os, rfl⟩ := h; rfl, h.le, fun k hk hne => at_other h hk (fun e => hne (by rw [e]))⟩

/-- slices.Compact at []int32, from a world of the sort's. -/
theorem compact55 {w0 : World} {blk off n : Nat} (B : Bed w0 blk off n) (cap : Nat) (d : Array Int) (w : World) (hs : d.size = n) (S : SI w0 blk off d w) (hc : n ≤ cap) :
    Calls Yba.prog 55 #[.slice (some ⟨blk, off, none⟩) n cap] w fun e w' => e = .returned (.slice (some ⟨blk, off, none⟩) (Lib.compactUpTo d d.size).length cap) ∧
      SI w0 blk off (Lib.compactUpTo d d.size ++ List.replicate (d.size - (Lib.compactUpTo d d.size).length) (0 : Int)).toArray w' := by
  obtain ⟨d0, h0, hH⟩ := B.row
  have hH2 := (S.holds hH (by omega) B.old).1
  have few := B.few
  have hcon := AnyE.slices_Compact (ρ := Yba.compactL_ren) Yba.compactL (Value.int .i32) (fun _ => rfl) (EqlAt.intD _ _ _) (NeqAt.intD _ _ _) 0 zero21 blk off cap d w hH2 (by omega) (by omega)
  change Calls Yba.prog 55 _ _ _ at hcon
  rw [hs] at hcon ⊢
  refine hcon.mono ?_
  rintro e w' ⟨rfl, q, rfl⟩
  refine ⟨rfl, S.step B.old ?_ ⟨q, rfl⟩⟩
  have hl : (Lib.compactUpTo d n).length ≤ n := by
    unfold Lib.compactUpTo
    rw [List.length_map]
    exact Nat.le_trans (List.length_filter_le _ _) (by simp)
  simp only [List.size_toArray, List.length_append, List.length_replicate]
  omega

/-- Node v's successors: sorted, each once. -/
def csA (E : List (Nat × Nat)) (v : Nat) : List Int := Lib.compact (((succA E v).map fun u : Nat => (u : Int)).mergeSort fun x y => decide (x ≤ y))

theorem csA_len (E : List (Nat × Nat)) (v : Nat) : (csA E v).length ≤ cntA E v := by
  unfold csA Lib.compact Lib.compactUpTo cntA
  rw [List.length_map]
  exact Nat.le_trans (List.length_filter_le _ _) (by simp)

/-- Node v's slice. -/
def scSl (E : List (Nat × Nat)) (ab i : Nat) : Value := .slice (if cntA E i = 0 then some ⟨ab, 0, none⟩ else some ⟨ab, stA E i, none⟩) (csA E i).length (cntA E i)

/-- The lists of successors, the first u of them sorted and thinned. -/
structure SuccTo (n : Nat) (E : List (Nat × Nat)) (lb ab : Nat) (u : Nat) (F : Nat → Int) (W : World) : Prop where
  top : W.rowIs lb 43 n (fun i => if i < u then scSl E ab i else adSl E ab i)
  row : W.rowIs ab 21 E.length (fun i => .int .i32 (F i))
  done : ∀ v, v < u → ∀ j, j < (csA E v).length → F (stA E v + j) = (csA E v)[j]!
  todo : ∀ v, v < n → u ≤ v → ∀ j, j < cntA E v → F (stA E v + j) = (((succA E v).map fun x : Nat => (x : Int))[j]!)

theorem SuccTo.step {n : Nat} {E : List (Nat × Nat)} {lb ab u o : Nat} {F : Nat → Int} {W W2 : World} {d : Array Int} (h : SuccTo n E lb ab u F W) (hu : u < n) (hne : lb ≠ ab) (ho : cntA E u ≠ 0 → o = stA E u)
    (hd : d = (((succA E u).map fun x : Nat => (x : Int)).mergeSort fun x y => decide (x ≤ y)).toArray)
    (S : SI W ab o (Lib.compactUpTo d d.size ++ List.replicate (d.size - (Lib.compactUpTo d d.size).length) (0 : Int)).toArray W2) :
    ∃ F', SuccTo n E lb ab (u + 1) F' (W2.setCell ⟨lb, u, none⟩ (scSl E ab u)) := by
  have hcs : Lib.compactUpTo d d.size = csA E u := by rw [hd]; simp [csA, Lib.compact]
  have hds : d.size = cntA E u := by rw [hd]; simp [cntA]
  rw [hcs, hds] at S
  have hl := csA_len E u
  generalize hcd : (csA E u ++ List.replicate (cntA E u - (csA E u).length) (0 : Int)).toArray = cd at S
  have hcs2 : cd.size = cntA E u := by rw [← hcd]; simp; omega
  have hcg : ∀ j, j < (csA E u).length → cd[j]! = (csA E u)[j]! := by
    intro j hj
    rw [← hcd, getElem!_pos _ j (by simp; omega), getElem!_pos _ j hj]
    simp [hj]
  have row2 := at_row S h.row
  have far : ∀ v j, v ≠ u → j < cntA E v → ¬ (o ≤ stA E v + j ∧ stA E v + j < o + cd.size) := by
    rintro v j hv hj ⟨h1, h2⟩
    have hc : cntA E u ≠ 0 := by omega
    have := ho hc
    subst this
    have := stA_apart (E := E) (u := v) (v := u) (i := j) (j := stA E v + j - stA E u) hj (by omega) (by omega)
    exact hv this.1
  refine ⟨_, ⟨?_, row2.setOther (by simpa using hne.symm) _, ?_, ?_⟩⟩
  · have top2 := h.top.of_block (at_other S h.top.lt hne)
    refine (top2.set u _).congr (fun i _ => ?_)
    by_cases e : i = u
    · subst e
      rw [if_pos rfl, if_pos (by omega)]
    · rw [if_neg e]
      by_cases hi : i < u
      · rw [if_pos hi, if_pos (by omega)]
      · rw [if_neg hi, if_neg (by omega)]
  · intro v hv j hj
    by_cases e : v = u
    · subst e
      have hc : cntA E v ≠ 0 := by omega
      have := ho hc
      subst this
      show (if stA E v ≤ stA E v + j ∧ stA E v + j < stA E v + cd.size then cd[stA E v + j - stA E v]! else F (stA E v + j)) = _
      rw [if_pos ⟨by omega, by omega⟩, Nat.add_sub_cancel_left]
      exact hcg j hj
    · have := csA_len E v
      show (if o ≤ stA E v + j ∧ stA E v + j < o + cd.size then cd[stA E v + j - o]! else F (stA E v + j)) = _
      rw [if_neg (far v j e (by omega))]
      exact h.done v (by omega) j hj
  · intro v hv huv j hj
    show (if o ≤ stA E v + j ∧ stA E v + j < o + cd.size then cd[stA E v + j - o]! else F (stA E v + j)) = _
    rw [if_neg (far v j (by omega) hj)]
    exact h.todo v hv (by omega) j hj

/-- Node u's list before it is sorted, as a row of its own. -/
theorem SuccTo.bed {n : Nat} {E : List (Nat × Nat)} {lb ab u : Nat} {F : Nat → Int} {W : World} (h : SuccTo n E lb ab u F W) (hu : u < n) (hE : ∀ e ∈ E, e.1 < n) (hlen : E.length ≤ 4096) :
    ∃ o, adSl E ab u = .slice (some ⟨ab, o, none⟩) (cntA E u) (cntA E u) ∧ (∀ k, scSl E ab u = .slice k (csA E u).length (cntA E u) → k = some ⟨ab, o, none⟩) ∧ (cntA E u ≠ 0 → o = stA E u) ∧ Bed W ab o (cntA E u) ∧ SI W ab o ((succA E u).map fun x : Nat => (x : Int)).toArray W := by
  have hen := stA_end hE hu
  have hsz : ((succA E u).map fun x : Nat => (x : Int)).toArray.size = cntA E u := by simp [cntA]
  have hH : ∀ o, (cntA E u ≠ 0 → o = stA E u) → Holds (Value.int .i32) W ab o ((succA E u).map fun x : Nat => (x : Int)).toArray := by
    intro o ho j hj
    rw [hsz] at hj
    have := ho (by omega)
    subst this
    have hc := h.row.cell (i := stA E u + j) (by omega)
    rw [h.todo u hu (Nat.le_refl _) j hj] at hc
    refine ⟨?_, h.row.frozen _⟩
    rw [hc]
    simp
  by_cases hc : cntA E u = 0
  · refine ⟨0, ?_, ?_, fun h => absurd hc h, ⟨⟨_, hsz, hH 0 (fun h => absurd hc h)⟩, h.row.lt, by omega⟩, At.refl (hH 0 (fun h => absurd hc h))⟩
    · unfold adSl; rw [if_pos hc]
    · intro k hk; unfold scSl at hk; rw [if_pos hc] at hk; injection hk with e; exact e.symm
  · refine ⟨stA E u, ?_, ?_, fun _ => rfl, ⟨⟨_, hsz, hH _ (fun _ => rfl)⟩, h.row.lt, by omega⟩, At.refl (hH _ (fun _ => rfl))⟩
    · unfold adSl; rw [if_neg hc]
    · intro k hk; unfold scSl at hk; rw [if_neg hc] at hk; injection hk with e; exact e.symm

set_option maxHeartbeats 4000000 in
set_option maxRecDepth 100000 in
theorem succ46 (n gf : Nat) (bd : Array Value) (E : List (Nat × Nat)) (w : World) (c43 : Calls Yba.prog 43 #[.int .i64 (n : Nat), .func (.func gf) bd #[]] w (AdjPost n E w)) (hE : ∀ e ∈ E, e.1 < n) (hn : n ≤ 8) (hlen : E.length ≤ 4096) :
    Calls Yba.prog 46 #[.int .i64 (n : Nat), .func (.func gf) bd #[]] w fun e w' => ∃ lb ab F, e = .returned (.slice (some ⟨lb, 0, none⟩) n n) ∧ Below w.heap.size w w' ∧ w.heap.size ≤ lb ∧ w.heap.size ≤ ab ∧ lb ≠ ab ∧ SuccTo n E lb ab n F w' := by
  go_enter Yba.func46, Yba.ntmps46
  go_wp2_with (go_at_call 43; refine c43.mono ?_; rintro e w1 ⟨lb, ab, F, rfl, bel1, hlb, hab, hne, top1, row1, cont1⟩)
  have s0 : SuccTo n E lb ab 0 F w1 := by
    refine ⟨top1.congr (fun i _ => by rw [if_neg (Nat.not_lt_zero _)]), row1, fun v hv => absurd hv (Nat.not_lt_zero _), fun v hv _ j hj => ?_⟩
    obtain ⟨u, h1, h2⟩ := cont1 v hv j hj
    rw [h2]
    simp [h1]
  have HS0 : Hid _ := s0
  clear s0 top1 row1 cont1 c43
  go_loopw [13] (fun vu wr => ∃ (u : Nat) (F : Nat → Int), u ≤ n ∧ vu = .int .i64 (u : Nat) ∧ Below w.heap.size w wr ∧ Hid (SuccTo n E lb ab u F wr)) (fun vu _ => n - (intOf vu).toNat)
  case atStart => exact ⟨0, F, Nat.zero_le _, rfl, bel1, HS0⟩
  case round =>
    clear HS0 bel1 F
    obtain ⟨u, F, hu, rfl, bel, HS⟩ := hrel
    by_cases hlu : u < n
    · obtain ⟨o, hsl, hsc, ho, B, S⟩ := HS.out.bed hlu hE hlen
      have tc := HS.out.top.cell (i := u) hlu
      rw [if_neg (Nat.lt_irrefl _), hsl] at tc
      have tl := HS.out.top.lt
      have c54 := sort54 B (cntA E u) _ wr (by simp [cntA]) S
      obtain ⟨D, hD⟩ : ∃ D, D = (((succA E u).map fun x : Nat => (x : Int)).mergeSort fun x y => decide (x ≤ y)).toArray := ⟨_, rfl⟩
      have hDs : D.size = cntA E u := by rw [hD]; simp [cntA]
      rw [← hD] at c54
      have c55 : ∀ w', SI wr ab o D w' → Calls Yba.prog 55 #[.slice (some ⟨ab, o, none⟩) (cntA E u) (cntA E u)] w' fun e w' => e = .returned (scSl E ab u) ∧ SI wr ab o (Lib.compactUpTo D D.size ++ List.replicate (D.size - (Lib.compactUpTo D D.size).length) (0 : Int)).toArray w' := by
        intro w' S'
        have hcs : Lib.compactUpTo D D.size = csA E u := by rw [hD]; simp [csA, Lib.compact]
        refine (compact55 B (cntA E u) D w' hDs S' (Nat.le_refl _)).mono ?_
        rintro e w2 ⟨rfl, S2⟩
        refine ⟨?_, S2⟩
        rw [hcs]
        unfold scSl at hsc ⊢
        rw [hsc _ rfl]
      have HD : Hid _ := hD
      have HO : Hid (cntA E u ≠ 0 → o = stA E u) := ho
      clear hD ho B S hsc hsl
      generalize hCA : cntA E u = c at tc c54 c55
      obtain ⟨sv, hsv⟩ : ∃ sv, sv = scSl E ab u := ⟨_, rfl⟩
      obtain ⟨ka, kl, kc, hsh⟩ : ∃ ka kl kc, sv = .slice ka kl kc := by rw [hsv]; exact ⟨_, _, _, rfl⟩
      rw [← hsv] at c55
      rw [hsh] at c55 hsv
      have HSV : Hid _ := hsv
      clear hsh hsv
      go_wp2_with (first
        | (go_at_call 54; refine c54.mono ?_; rintro e w2 ⟨rfl, S2⟩)
        | (go_at_call 55; refine (c55 _ S2).mono ?_; rintro e w3 ⟨rfl, S3⟩; have t3 := (HS.out.top.of_block (at_other S3 HS.out.top.lt hne)).cell (i := u) hlu; have f3 := (HS.out.top.of_block (at_other S3 HS.out.top.lt hne)).frozen u; have l3 := (HS.out.top.of_block (at_other S3 HS.out.top.lt hne)).lt))
      go_roundw
      case rel =>
        obtain ⟨F', hF'⟩ := HS.out.step hlu hne HO.out HD.out S3
        rw [← HSV.out] at hF'
        exact ⟨u + 1, F', by omega, by go_num, (bel.grown (at_grown S3) bel.size (fun k e => by cases e; exact hab)).setCell hlb _, hF'⟩
      case measure => simp [intOf]; omega
    · have hun : u = n := by omega
      subst hun
      go_wp2_with fail
      go_ret
      exact ⟨lb, ab, F, rfl, bel, hlb, hab, hne, HS.out⟩

end Go.Proofs.Ybulkbik
