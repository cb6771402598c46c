import Derived.Test.YbulkbiyLawP
/-! set (6) once more, with what it says of the capacity; the model's row; remove at the root beside it. -/
namespace Go.Proofs.Ybulkbiy
attribute [local go_sem ↓] Go.wp_at_zero Go.wp_at_succ
open Go.RowKit Go.Maps Go.Sort

/-- slices.Clone at []uint64. -/
theorem clone13c (b off n c : Nat) (F : Nat → Int) (W : World) (h : ∀ i, i < n → W.cell? ⟨b, off + i, none⟩ = some (.int .u64 (F i))) (hn2 : n ≤ 1000) :
    Calls Yba.prog 13 #[.slice (some ⟨b, off, none⟩) n c] W fun e w' => ∃ g cap f, e = .returned (.slice (some ⟨g, 0, none⟩) n cap) ∧ W.heap.size ≤ g ∧ w'.rowIs g 23 cap f ∧ n ≤ cap ∧ cap ≤ maxLen ∧ (∀ i, i < n → f i = .int .u64 (F i)) ∧ Below W.heap.size W w' := by
  obtain ⟨i3, hi3, hz30, hz31, hz32⟩ := info_parts infoY23
  have hcon := AnyE.slices_Clone (ρ := Yba.cloneL_ren) Yba.cloneL i3 (.int .u64 0) 1 8 hi3 hz30 hz31 hz32 rfl (by decide) Yba.sizeOf23 b off n c ((List.range n).map fun i => Value.int .u64 (F i)) W (by simp) (by unfold maxLen; omega) (by omega)
    (fun j u hu => by
      have hj : j < n := by
        have := (List.getElem?_eq_some_iff.1 hu).1
        simpa using this
      simp [hj] at hu
      rw [← hu]
      exact h j hj) (by intro u hu; simp at hu; obtain ⟨i, _, rfl⟩ := hu; rfl)
  change Calls Yba.prog 13 _ _ _ at hcon
  refine hcon.mono ?_
  rintro e w' ⟨v', rfl, hown, hne, hb⟩
  rcases hown.2 with ⟨e, _⟩ | ⟨g, cap, cur, rfl, hg, hh, h1, h2, h3, h4⟩
  · exact absurd e hne
  · refine ⟨g, cap, fun i => cur[i]?.getD undef, rfl, hg, ⟨cur, hh, by simpa using h3, fun i hi => by simp at h3; simp [h3, hi]⟩, h1, h2, fun i hi => ?_, hb⟩
    have hi2 : cur.toList[i]? = some (.int .u64 (F i)) := by
      have : (cur.toList.take (n * 1))[i]? = some (.int .u64 (F i)) := by rw [h4]; simp [hi]
      rwa [List.getElem?_take_of_lt (by omega)] at this
    have : cur[i]? = some (.int .u64 (F i)) := by simpa using hi2
    simp [this]

set_option maxHeartbeats 1000000 in
theorem set6c (b off n cap : Nat) (K : Nat → Int) (w : World) (h : ∀ i, i < n → w.cell? ⟨b, off + i, none⟩ = some (.int .u64 (K i))) (hn : n ≤ 256) :
    Calls Yba.prog 6 #[.slice (some ⟨b, off, none⟩) n cap] w fun e w' => ∃ g cp, e = .returned (.slice (some ⟨g, 0, none⟩) (setL K n).length cp) ∧ w.heap.size ≤ g ∧ cp ≤ maxLen ∧ OwnL w' g cp (setL K n) ∧ Below w.heap.size w w' := by
  have c13 := clone13c b off n cap K w h (by omega)
  clear h
  go_enter Yba.func6, Yba.ntmps6
  go_wp2_with fail
  refine c13.mono ?_
  rintro e w1 ⟨g, cp, f, rfl, hg, hr, hcp, hcm, hf, hb1⟩
  clear c13
  have hH : Holds (Value.int .u64) w1 g 0 ((List.range n).map K).toArray := by
    intro j hj
    have hj' : j < n := by simpa using hj
    refine ⟨?_, by rw [Nat.zero_add]; exact hr.frozen j⟩
    rw [Nat.zero_add, hr.cell (by omega), hf j hj', getElem!_pos _ j hj]
    simp
  have B : Bed w1 g 0 n := ⟨⟨_, by simp, hH⟩, hr.lt, by omega⟩
  have c14 := sort54 B cp _ w1 (by simp) (At.refl hH)
  go_wp2_with fail
  refine c14.mono ?_
  rintro e w2 ⟨rfl, S2⟩
  clear c14
  have c15 := compact15 B cp _ w2 (by simp) S2 hcp
  go_wp2_with fail
  refine c15.mono ?_
  rintro e w3 ⟨rfl, S3⟩
  clear c15
  have hl := setL_len K n
  have hset : Lib.compactUpTo (((List.range n).map K).toArray.toList.mergeSort fun x y => decide (x ≤ y)).toArray (((List.range n).map K).toArray.toList.mergeSort fun x y => decide (x ≤ y)).toArray.size = setL K n := by
    simp [setL, Lib.compact]
  rw [hset] at S3 ⊢
  have hr3 := at_rowV S3 hr
  go_wp2_with fail
  go_ret
  refine ⟨g, cp, rfl, hg, hcm, ⟨⟨_, hr3, fun i hi => ?_⟩, by omega⟩, hb1.grown (at_grown S3) hb1.size (fun k e => by cases e; exact hg)⟩
  have hi2 : i < (setL K n ++ List.replicate ((((List.range n).map K).toArray.toList.mergeSort fun x y => decide (x ≤ y)).toArray.size - (setL K n).length) (0 : Int)).toArray.size := by simp; omega
  rw [if_pos ⟨Nat.zero_le _, by rw [Nat.zero_add]; exact hi2⟩, Nat.sub_zero, getElem!_pos _ i hi2, getElem!_pos _ i hi]
  congr 1
  simp only [List.getElem_toArray]
  rw [List.getElem_append_left hi]


theorem OwnL.lies {w : World} {g cp : Nat} {l : List Int} (h : OwnL w g cp l) : LiesU w (some ⟨g, 0, none⟩) l := fun _ => by
  obtain ⟨f, hr, hf⟩ := h.row
  exact ⟨g, 0, rfl, fun j hj => by rw [Nat.zero_add, hr.cell (by have := h.len; omega), hf j hj]⟩

theorem OwnL.lt {w : World} {g cp : Nat} {l : List Int} (h : OwnL w g cp l) : g < w.heap.size := by
  obtain ⟨f, hr, _⟩ := h.row
  exact hr.lt

theorem OwnL.same {w w' : World} {g cp : Nat} {l : List Int} (h : OwnL w g cp l) (e : w'.heap[g]? = w.heap[g]?) : OwnL w' g cp l := by
  obtain ⟨f, hr, hf⟩ := h.row
  exact ⟨⟨f, hr.of_block e, hf⟩, h.len⟩

theorem OwnL.holds {w : World} {g cp : Nat} {l : List Int} (h : OwnL w g cp l) : Holds (Value.int .u64) w g 0 l.toArray := by
  obtain ⟨f, hr, hf⟩ := h.row
  intro j hj
  have hj' : j < l.length := by simpa using hj
  refine ⟨?_, by rw [Nat.zero_add]; exact hr.frozen j⟩
  rw [Nat.zero_add, hr.cell (by have := h.len; omega), hf j hj', getElem!_pos _ j hj, getElem!_pos _ j hj']
  simp

/-- A tree of the numbers S stands at R, apart from the block mb. -/
def TreeM (w0 : World) (wd : Nat) (S : List Int) (R mb : Nat) (w : World) : Prop :=
  ∃ d D C P N, Rep w0 D C P N w ∧ WF C wd d R ∧ (∀ x ∈ ids C d R, x ∈ D) ∧ (ids C d R).Nodup ∧ (elems C d R).Pairwise (· < ·) ∧ Lk P N none (lvs C d R) ∧ (leaves C d R).Nodup ∧ elems C d R = S ∧ ∀ b ∈ D, mb ∉ blks (C b) b

section
variable {w0 : World} {wd R mb : Nat} {S : List Int} {w w' : World}

theorem TreeM.toW (h : TreeM w0 wd S R mb w) : TreeW w0 wd S R w := by
  obtain ⟨d, D, C, P, N, h1, h2, h3, h4, h5, h6, h7, h8, _⟩ := h
  exact ⟨d, D, C, P, N, h1, h2, h3, h4, h5, h6, h7, h8⟩

theorem TreeW.toM (h : TreeW w0 wd S R w) (hm : w.heap.size ≤ mb) : TreeM w0 wd S R mb w := by
  obtain ⟨d, D, C, P, N, h1, h2, h3, h4, h5, h6, h7, h8⟩ := h
  exact ⟨d, D, C, P, N, h1, h2, h3, h4, h5, h6, h7, h8, fun b hb hk => by have := (h1.at_ b hb).lt hk; omega⟩

theorem TreeM.below (h : TreeM w0 wd S R mb w) (hb : Below w.heap.size w w') : TreeM w0 wd S R mb w' := by
  obtain ⟨d, D, C, P, N, h1, r⟩ := h
  exact ⟨d, D, C, P, N, (h1.below hb).rep, r⟩

theorem TreeM.bel (h : TreeM w0 wd S R mb w) : Below w0.heap.size w0 w := by
  obtain ⟨d, D, C, P, N, h1, r⟩ := h
  exact h1.bel

theorem TreeM.sorted (h : TreeM w0 wd S R mb w) : S.Pairwise (· < ·) := by
  obtain ⟨d, D, C, P, N, _, _, _, _, h5, _, _, h8, _⟩ := h
  rw [← h8]; exact h5

/-- The block mb alone is written. -/
theorem TreeM.grown (h : TreeM w0 wd S R mb w) (hm : w0.heap.size ≤ mb) (hg : w.grownBy w' (some mb)) : TreeM w0 wd S R mb w' := by
  obtain ⟨d, D, C, P, N, h1, h2, h3, h4, h5, h6, h7, h8, h9⟩ := h
  refine ⟨d, D, C, P, N, ⟨h1.bel.grown hg h1.bel.size (fun k hk => by cases hk; exact hm), fun b hb => (h1.at_ b hb).same (fun k hk => hg.block k ((h1.at_ b hb).lt hk) (fun e => ?_)), h1.new, h1.sep, h1.apart⟩, h2, h3, h4, h5, h6, h7, h8, h9⟩
  cases e
  exact h9 b hb hk

theorem TreeM.size (h : TreeM w0 wd S R mb w) : w.cell? ⟨R, 4, none⟩ = some (.int .i64 (S.length : Nat)) ∧ R < w.heap.size := by
  obtain ⟨d, D, C, P, N, h1, h2, h3, h4, h5, h6, h7, h8, h9⟩ := h
  have hr := (h1.at_ R (h3 R (ids_self _ _))).row
  refine ⟨?_, hr.lt⟩
  rw [hr.cell (i := 4) (by omega), ← h8, ← h2.size]; rfl

theorem rem_rootM (hwd : 2 ≤ wd ∧ wd ≤ 99) (T : TreeM w0 wd S R mb w) (hne : S ≠ []) (hmb : mb < w.heap.size) (hl : S.length ≤ 1000) (k : Int) :
    Calls Yba.prog 7 #[.pointer (some ⟨R, 0, none⟩), .int .u64 k] w fun e w' => e = .returned (.bool (decide (k ∈ S))) ∧ TreeM w0 wd (S.erase k) R mb w' ∧ w'.heap[mb]? = w.heap[mb]? ∧ mb < w'.heap.size := by
  obtain ⟨d, D, C, P, N, hR, wf, hid, hidn, srt, lk, lnd, hel, hmn⟩ := T
  have hne' : elems C d R ≠ [] := by rw [hel]; exact hne
  rw [lvs_of_ne hne'] at lk
  have pre : Pre D C P N wd d R [] [] := ⟨wf, hid, hidn, srt, by simpa using lk, by simpa using lnd, by simp⟩
  refine (rem7 w0 wd hwd k d D C P N w R [] [] hR pre (.inr hne') (by rw [hel]; exact hl)).mono ?_
  rintro e w' (⟨hk, rfl, st⟩ | ⟨hk, rfl, C', P', N', q⟩)
  · rw [hel] at hk
    refine ⟨by simp [hk], ?_, st.keeps.2 mb hmb hmn, Nat.lt_of_lt_of_le hmb st.keeps.1⟩
    rw [List.erase_of_not_mem hk]
    exact ⟨d, D, C, P, N, st.rep, wf, hid, hidn, srt, by rw [lvs_of_ne hne']; exact lk, lnd, hel, hmn⟩
  · have hk' := hk
    rw [hel] at hk'
    refine ⟨by simp [hk'], ?_, q.st.keeps.2 mb hmb hmn, Nat.lt_of_lt_of_le hmb q.st.keeps.1⟩
    have hlk := q.lk
    simp only [List.nil_append, List.append_nil] at hlk
    refine ⟨d, D, C', P', N', q.st.rep, q.wf, fun x hx => hid x (q.idm x hx), q.idn, ?_, hlk, q.lnd, by rw [q.el, hel], fun b hb hm => ?_⟩
    · rw [q.el]; exact srt.sublist List.erase_sublist
    · rcases q.st.grows b hb mb hm with ⟨c, hc, hm2⟩ | hm2
      · exact hmn c hc hm2
      · omega
end

theorem idx_in {S : List Int} {k : Int} (h : S.Pairwise (· < ·)) (hk : k ∈ S) : Lib.idxBy (fun x y => x == y) (S.take S.length) k = (posOf S k : Nat) := by
  have hat := (mem_at h).1 hk
  have hlt := (List.getElem?_eq_some_iff.1 hat).1
  refine Lib.idxBy_hit _ S S.length (posOf S k) k hlt (Nat.le_refl _) ?_ (fun j hj => ?_)
  · rw [getElem!_pos S _ hlt, (List.getElem?_eq_some_iff.1 hat).2]; simp
  · rw [getElem!_pos S j (by omega)]
    have hsp := (posOf_split S k h).1 S[j] (by
      rw [List.mem_take_iff_getElem]
      exact ⟨j, by omega, rfl⟩)
    simp; omega

theorem idx_out {S : List Int} {k : Int} (hk : k ∉ S) : Lib.idxBy (fun x y => x == y) (S.take S.length) k = -1 := by
  refine Lib.idxBy_miss _ S S.length k (fun j hj => ?_)
  rw [getElem!_pos S j hj]
  refine beq_eq_false_iff_ne.2 (fun e => hk ?_)
  rw [e]; exact List.getElem_mem _

/-- slices.Index (9). -/
theorem index9 {w : World} {g cp : Nat} {S : List Int} (h : OwnL w g cp S) (hl : S.length ≤ 1000) (k : Int) : Calls Yba.prog 9 #[.slice (some ⟨g, 0, none⟩) S.length cp, .int .u64 k] w fun e w' => e = .returned (.int .i64 (Lib.idxBy (fun x y => x == y) (S.take S.length) k)) ∧ w' = w := by
  obtain ⟨f, hr, hf⟩ := h.row
  exact AnyE.slices_Index Yba.indexL (Value.int .u64) (fun x y => x == y) (EqlAt.int Yba.prog 23 .u64) g 0 S.length cp S k w (Nat.le_refl _) (by omega) (fun j hj => by rw [Nat.zero_add, hr.cell (by have := h.len; omega), hf j hj])

/-- slices.Delete (10), one element. -/
theorem delete10 {w : World} {g cp : Nat} {S : List Int} (h : OwnL w g cp S) (hcp : cp ≤ maxLen) (i : Nat) (hi : i < S.length) : Calls Yba.prog 10 #[.slice (some ⟨g, 0, none⟩) S.length cp, .int .i64 (i : Nat), .int .i64 ((i + 1 : Nat) : Int)] w fun e w' => e = .returned (.slice (some ⟨g, 0, none⟩) (S.take i ++ S.drop (i + 1)).length cp) ∧ OwnL w' g cp (S.take i ++ S.drop (i + 1)) ∧ w.grownBy w' (some g) := by
  obtain ⟨i23, hi23, hz0, hz1, hz2⟩ := info_parts infoY23
  have hcon := AnyE.slices_Delete Yba.deleteL (Value.int .u64) (fun _ => rfl) 0 zeroY23 i23 hi23 hz1 g 0 cp i (i + 1) S.toArray w h.holds (by simpa using h.len) (by unfold maxLen at hcp; omega) (by omega) (by simp; omega)
  change Calls Yba.prog 10 _ _ _ at hcon
  simp only [List.size_toArray] at hcon
  refine hcon.mono ?_
  rintro e w' ⟨rfl, q, hw'⟩
  have hll : (S.take i ++ S.drop (i + 1)).length = S.length - (i + 1 - i) := by simp; omega
  have hS : SI w g 0 (S.take i ++ S.drop (i + 1) ++ List.replicate (i + 1 - i) (0 : Int)).toArray w' := (At.refl h.holds).step h.lt (by simp; omega) ⟨q, hw'⟩
  refine ⟨by rw [hll], ?_, at_grown hS⟩
  obtain ⟨f, hr, hf⟩ := h.row
  refine ⟨⟨_, at_rowV hS hr, fun j hj => ?_⟩, by rw [hll]; have := h.len; omega⟩
  have hj2 : j < (S.take i ++ S.drop (i + 1) ++ List.replicate (i + 1 - i) (0 : Int)).toArray.size := by simp at hj ⊢; omega
  rw [if_pos ⟨Nat.zero_le _, by rw [Nat.zero_add]; exact hj2⟩, Nat.sub_zero, getElem!_pos _ j hj2, getElem!_pos _ j hj]
  congr 1
  simp only [List.getElem_toArray]
  rw [List.getElem_append_left hj]

end Go.Proofs.Ybulkbiy
