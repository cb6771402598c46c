import Derived.Test.YbulkbiyTree
/-! insert over the plain tree: what goes in, what comes out, and how an inner node's answer is made of its child's. -/
namespace Go.Proofs.Ybulkbiy
open Go.RowKit Go.Maps Go.Sort

structure Pre (D : List Nat) (C : Nat → Nd) (P N : Nat → Option Nat) (wd d b : Nat) (A B : List Nat) : Prop where
  wf : WF C wd d b
  idD : ∀ x ∈ ids C d b, x ∈ D
  idn : (ids C d b).Nodup
  srt : (elems C d b).Pairwise (· < ·)
  lk : Lk P N none (A ++ leaves C d b ++ B)
  lnd : (A ++ leaves C d b ++ B).Nodup
  ab : ∀ x, x ∈ A ∨ x ∈ B → x ∈ D ∧ x ∉ ids C d b

structure InsPost (w0 : World) (D : List Nat) (C : Nat → Nd) (W : World) (wd d b : Nat) (k : Int) (A B : List Nat) (up : Option Nat) (D' : List Nat) (C' : Nat → Nd) (P' N' : Nat → Option Nat) (w' : World) : Prop where
  rep : Rep w0 D' C' P' N' w'
  keeps : Keeps D C W w'
  grows : Grows D C W D' C'
  sub : ∀ x ∈ D, x ∈ D'
  wf : WF C' wd d b
  wfu : ∀ u, up = some u → WF C' wd d u ∧ elems C' d u ≠ []
  ne : elems C' d b ≠ []
  el : elems C' d b ++ up.toList.flatMap (elems C' d) = insK k (elems C d b)
  lk : Lk P' N' none (A ++ (leaves C' d b ++ up.toList.flatMap (leaves C' d)) ++ B)
  lnd : (leaves C' d b ++ up.toList.flatMap (leaves C' d)).Nodup
  out : ∀ x ∈ D, x ∉ ids C d b → C' x = C x
  idn : (ids C' d b ++ up.toList.flatMap (ids C' d)).Nodup
  idm : ∀ x ∈ ids C' d b ++ up.toList.flatMap (ids C' d), x ∈ D' ∧ (x ∈ ids C d b ∨ x ∉ D)

theorem sub_mid {α : Type} {L R : List α} {c : α} {f : α → List Nat} : (L ++ c :: R).flatMap f = L.flatMap f ++ f c ++ R.flatMap f := by
  simp

/-- The child's side of an inner node's call. -/
theorem Pre.kid {D : List Nat} {C : Nat → Nd} {P N : Nat → Option Nat} {wd d b : Nat} {A B : List Nat} (h : Pre D C P N wd (d + 1) b A B) {L R : List Nat} {c : Nat} (hks : (C b).ks = L ++ c :: R) :
    Pre D C P N wd d c (A ++ L.flatMap (leaves C d)) (R.flatMap (leaves C d) ++ B) ∧ b ∉ ids C d c ∧ (∀ x ∈ L ++ R, ∀ y ∈ ids C d x, y ∉ ids C d c ∧ y ≠ b) := by
  have hc : c ∈ (C b).ks := by rw [hks]; simp
  have hidn := h.idn
  simp only [ids, List.nodup_cons] at hidn
  have hn2 := hidn.2
  rw [hks, sub_mid, List.nodup_append, List.nodup_append] at hn2
  have hdis : ∀ x ∈ L ++ R, ∀ y ∈ ids C d x, y ∉ ids C d c ∧ y ≠ b := fun x hx y hy => by
    refine ⟨fun hyc => ?_, fun e => hidn.1 (List.mem_flatMap.2 ⟨x, ?_, e ▸ hy⟩)⟩
    · rcases List.mem_append.1 hx with hx | hx
      · exact hn2.1.2.2 y (List.mem_flatMap.2 ⟨x, hx, hy⟩) y hyc rfl
      · exact hn2.2.2 y (List.mem_append.2 (.inr hyc)) y (List.mem_flatMap.2 ⟨x, hx, hy⟩) rfl
    · rw [hks]
      rcases List.mem_append.1 hx with hx | hx
      · exact List.mem_append.2 (.inl hx)
      · exact List.mem_append.2 (.inr (List.mem_cons_of_mem _ hx))
  have hlv : A ++ leaves C (d + 1) b ++ B = A ++ L.flatMap (leaves C d) ++ leaves C d c ++ (R.flatMap (leaves C d) ++ B) := by
    simp only [leaves]
    rw [hks, sub_mid]
    simp only [List.append_assoc]
  refine ⟨⟨(h.wf.2.2.2.2.2 c hc).1, fun x hx => h.idD x (ids_kid hc hx), hn2.1.2.1, ?_, by rw [← hlv]; exact h.lk, by rw [← hlv]; exact h.lnd, fun x hx => ?_⟩, fun hb => hidn.1 (List.mem_flatMap.2 ⟨c, hc, hb⟩), hdis⟩
  · have hs := h.srt
    simp only [elems] at hs
    rw [List.pairwise_flatMap] at hs
    exact hs.1 c hc
  · simp only [List.mem_append] at hx
    have sib : ∀ q ∈ L ++ R, x ∈ leaves C d q → x ∈ D ∧ x ∉ ids C d c := fun q hq hxq => by
      have hxi := leaves_ids d q x hxq
      have hqk : q ∈ (C b).ks := by
        rw [hks]
        rcases List.mem_append.1 hq with hq | hq
        · exact List.mem_append.2 (.inl hq)
        · exact List.mem_append.2 (.inr (List.mem_cons_of_mem _ hq))
      exact ⟨h.idD x (ids_kid hqk hxi), (hdis q hq x hxi).1⟩
    rcases hx with (hx | hx) | hx | hx
    · have := h.ab x (.inl hx)
      exact ⟨this.1, fun hi => this.2 (ids_kid hc hi)⟩
    · obtain ⟨q, hq, hxq⟩ := List.mem_flatMap.1 hx
      exact sib q (List.mem_append.2 (.inl hq)) hxq
    · obtain ⟨q, hq, hxq⟩ := List.mem_flatMap.1 hx
      exact sib q (List.mem_append.2 (.inr hq)) hxq
    · have := h.ab x (.inr hx)
      exact ⟨this.1, fun hi => this.2 (ids_kid hc hi)⟩

/-- The children after the child's call, seen from the inner node. -/
structure Kids (D : List Nat) (C : Nat → Nd) (wd d b : Nat) (A B : List Nat) (es : List Int) (D1 : List Nat) (C1 : Nat → Nd) (P1 N1 : Nat → Option Nat) (ks' : List Nat) : Prop where
  bD : b ∈ D1
  same : C1 b = C b
  sub : ∀ x ∈ D, x ∈ D1
  wf : ∀ x ∈ ks', WF C1 wd d x ∧ elems C1 d x ≠ []
  bn : ∀ x ∈ ks', b ∉ ids C1 d x
  el : ks'.flatMap (elems C1 d) = es
  lk : Lk P1 N1 none (A ++ ks'.flatMap (leaves C1 d) ++ B)
  lnd : (ks'.flatMap (leaves C1 d)).Nodup
  out : ∀ x ∈ D, x ∉ ids C (d + 1) b → C1 x = C x
  idn : (ks'.flatMap (ids C1 d)).Nodup
  idm : ∀ x ∈ ks'.flatMap (ids C1 d), x ∈ D1 ∧ (x ∈ ids C (d + 1) b ∨ x ∉ D)

theorem fm_ids {C C1 : Nat → Nd} {d : Nat} {L : List Nat} (h : ∀ x ∈ L, ∀ y ∈ ids C d x, C1 y = C y) : L.flatMap (ids C1 d) = L.flatMap (ids C d) := flatMap_congrY (fun x hx => ids_congr d x (h x hx))
theorem fm_elems {C C1 : Nat → Nd} {d : Nat} {L : List Nat} (h : ∀ x ∈ L, ∀ y ∈ ids C d x, C1 y = C y) : L.flatMap (elems C1 d) = L.flatMap (elems C d) := flatMap_congrY (fun x hx => elems_congr d x (h x hx))
theorem fm_leaves {C C1 : Nat → Nd} {d : Nat} {L : List Nat} (h : ∀ x ∈ L, ∀ y ∈ ids C d x, C1 y = C y) : L.flatMap (leaves C1 d) = L.flatMap (leaves C d) := flatMap_congrY (fun x hx => leaves_congr d x (h x hx))

theorem Pre.kids {w0 : World} {D : List Nat} {C : Nat → Nd} {P N : Nat → Option Nat} {W : World} {wd d b : Nat} {A B : List Nat} (h : Pre D C P N wd (d + 1) b A B) {L R : List Nat} {c : Nat} (hks : (C b).ks = L ++ c :: R) {k : Int}
    (hL : ∀ x ∈ L.flatMap (elems C d), x < k) (hR : ∀ x ∈ R.flatMap (elems C d), k < x) {up : Option Nat} {D1 : List Nat} {C1 : Nat → Nd} {P1 N1 : Nat → Option Nat} {w1 : World}
    (q : InsPost w0 D C W wd d c k (A ++ L.flatMap (leaves C d)) (R.flatMap (leaves C d) ++ B) up D1 C1 P1 N1 w1) :
    Kids D C wd d b A B (insK k (elems C (d + 1) b)) D1 C1 P1 N1 (L ++ c :: (up.toList ++ R)) := by
  obtain ⟨hp, hbc, hdis⟩ := h.kid hks
  have hLR : ∀ x ∈ L ++ R, x ∈ (C b).ks := fun x hx => by
    rw [hks]
    rcases List.mem_append.1 hx with hx | hx
    · exact List.mem_append.2 (.inl hx)
    · exact List.mem_append.2 (.inr (List.mem_cons_of_mem _ hx))
  have hc : c ∈ (C b).ks := by rw [hks]; simp
  have hbD : b ∈ D := h.idD b (ids_self _ _)
  have hsib : ∀ x ∈ L ++ R, ∀ y ∈ ids C d x, C1 y = C y := fun x hx y hy => q.out y (h.idD y (ids_kid (hLR x hx) hy)) (hdis x hx y hy).1
  have sL : ∀ x ∈ L, ∀ y ∈ ids C d x, C1 y = C y := fun x hx => hsib x (List.mem_append.2 (.inl hx))
  have sR : ∀ x ∈ R, ∀ y ∈ ids C d x, C1 y = C y := fun x hx => hsib x (List.mem_append.2 (.inr hx))
  have hmem : ∀ x, x ∈ L ++ c :: (up.toList ++ R) → x ∈ L ++ R ∨ x = c ∨ up = some x := fun x hx => by
    simp only [List.mem_append, List.mem_cons, Option.mem_toList] at hx ⊢
    rcases hx with hx | rfl | hx | hx
    · exact .inl (.inl hx)
    · exact .inr (.inl rfl)
    · exact .inr (.inr hx)
    · exact .inl (.inr hx)
  have ids' : (L ++ c :: (up.toList ++ R)).flatMap (ids C1 d) = L.flatMap (ids C d) ++ (ids C1 d c ++ up.toList.flatMap (ids C1 d)) ++ R.flatMap (ids C d) := by
    rw [← fm_ids sL, ← fm_ids sR]; simp [List.flatMap_append]
  have hidn := h.idn
  simp only [ids, List.nodup_cons] at hidn
  have hn2 := hidn.2
  rw [hks, sub_mid, List.nodup_append, List.nodup_append] at hn2
  have hbk : b ∉ ids C1 d c ++ up.toList.flatMap (ids C1 d) := fun hb => by
    rcases (q.idm b hb).2 with h1 | h1
    · exact hbc h1
    · exact h1 hbD
  have sibout : ∀ x ∈ L ++ R, ∀ y ∈ ids C d x, y ∉ ids C1 d c ++ up.toList.flatMap (ids C1 d) := fun x hx y hy hy2 => by
    rcases (q.idm y hy2).2 with h1 | h1
    · exact (hdis x hx y hy).1 h1
    · exact h1 (h.idD y (ids_kid (hLR x hx) hy))
  have idn' : ((L ++ c :: (up.toList ++ R)).flatMap (ids C1 d)).Nodup := by
    rw [ids', List.nodup_append, List.nodup_append]
    refine ⟨⟨hn2.1.1, q.idn, fun y hy z hz e => ?_⟩, hn2.2.1, fun y hy z hz e => ?_⟩
    · subst e
      obtain ⟨x, hx, hyx⟩ := List.mem_flatMap.1 hy
      exact sibout x (List.mem_append.2 (.inl hx)) y hyx hz
    · subst e
      rcases List.mem_append.1 hy with hy | hy
      · exact hn2.2.2 y (List.mem_append.2 (.inl hy)) y hz rfl
      · obtain ⟨x, hx, hyx⟩ := List.mem_flatMap.1 hz
        exact sibout x (List.mem_append.2 (.inr hx)) y hyx hy
  have lv' : (L ++ c :: (up.toList ++ R)).flatMap (leaves C1 d) = L.flatMap (leaves C d) ++ (leaves C1 d c ++ up.toList.flatMap (leaves C1 d)) ++ R.flatMap (leaves C d) := by
    rw [← fm_leaves sL, ← fm_leaves sR]; simp [List.flatMap_append]
  refine ⟨q.sub b hbD, q.out b hbD hbc, q.sub, fun x hx => ?_, fun x hx => ?_, ?_, ?_, ?_, fun x hx hn => q.out x hx (fun hi => hn (ids_kid hc hi)), idn', fun x hx => ?_⟩
  · rcases hmem x hx with h1 | rfl | h1
    · have := h.wf.2.2.2.2.2 x (hLR x h1)
      rw [elems_congr d x (hsib x h1)]
      exact ⟨WF_congr d x (hsib x h1) this.1, this.2⟩
    · exact ⟨q.wf, q.ne⟩
    · exact q.wfu x h1
  · rcases hmem x hx with h1 | rfl | h1
    · rw [ids_congr d x (hsib x h1)]
      exact fun hb => (hdis x h1 b hb).2 rfl
    · exact fun hb => hbk (List.mem_append.2 (.inl hb))
    · exact fun hb => hbk (List.mem_append.2 (.inr (List.mem_flatMap.2 ⟨x, by simp [h1], hb⟩)))
  · have e1 : (L ++ c :: (up.toList ++ R)).flatMap (elems C1 d) = L.flatMap (elems C d) ++ (elems C1 d c ++ up.toList.flatMap (elems C1 d)) ++ R.flatMap (elems C d) := by
      rw [← fm_elems sL, ← fm_elems sR]; simp [List.flatMap_append]
    rw [e1, q.el]
    simp only [elems]
    rw [hks, show (L ++ c :: R).flatMap (elems C d) = L.flatMap (elems C d) ++ elems C d c ++ R.flatMap (elems C d) by simp]
    exact (insK_mid hL hR).symm
  · rw [lv']
    have := q.lk
    simp only [List.append_assoc] at this ⊢
    exact this
  · rw [lv', List.nodup_append, List.nodup_append]
    have hl := h.lnd
    simp only [leaves] at hl
    rw [hks, sub_mid, List.nodup_append, List.nodup_append, List.nodup_append, List.nodup_append] at hl
    have lq : ∀ y ∈ leaves C1 d c ++ up.toList.flatMap (leaves C1 d), y ∈ ids C1 d c ++ up.toList.flatMap (ids C1 d) := fun y hy => by
      rcases List.mem_append.1 hy with hy | hy
      · exact List.mem_append.2 (.inl (leaves_ids _ _ _ hy))
      · obtain ⟨x, hx, hyx⟩ := List.mem_flatMap.1 hy
        exact List.mem_append.2 (.inr (List.mem_flatMap.2 ⟨x, hx, leaves_ids _ _ _ hyx⟩))
    refine ⟨⟨hl.1.2.1.1.1, q.lnd, fun y hy z hz e => ?_⟩, hl.1.2.1.2.1, fun y hy z hz e => ?_⟩
    · subst e
      obtain ⟨x, hx, hyx⟩ := List.mem_flatMap.1 hy
      exact sibout x (List.mem_append.2 (.inl hx)) y (leaves_ids _ _ _ hyx) (lq y hz)
    · subst e
      rcases List.mem_append.1 hy with hy | hy
      · exact hl.1.2.1.2.2 y (List.mem_append.2 (.inl hy)) y hz rfl
      · obtain ⟨x, hx, hyx⟩ := List.mem_flatMap.1 hz
        exact sibout x (List.mem_append.2 (.inr hx)) y (leaves_ids _ _ _ hyx) (lq y hy)
  · rw [ids'] at hx
    have sb : ∀ (M : List Nat), (∀ z ∈ M, z ∈ L ++ R) → x ∈ M.flatMap (ids C d) → x ∈ D1 ∧ (x ∈ ids C (d + 1) b ∨ x ∉ D) := fun M hM hx => by
      obtain ⟨y, hy, hxy⟩ := List.mem_flatMap.1 hx
      have := ids_kid (hLR y (hM y hy)) hxy
      exact ⟨q.sub x (h.idD x this), .inl this⟩
    rcases List.mem_append.1 hx with hx | hx
    · rcases List.mem_append.1 hx with hx | hx
      · exact sb L (fun z hz => List.mem_append.2 (.inl hz)) hx
      · obtain ⟨h1, h2⟩ := q.idm x hx
        exact ⟨h1, h2.elim (fun h2 => .inl (ids_kid hc h2)) .inr⟩
    · exact sb R (fun z hz => List.mem_append.2 (.inr hz)) hx

/-- One node over children that stand. -/
theorem node_up {C1 : Nat → Nd} {wd d b : Nat} {r : Nd} (hk : ∀ x ∈ r.ks, WF C1 wd d x ∧ elems C1 d x ≠ []) (hb : ∀ x ∈ r.ks, b ∉ ids C1 d x) (hch : ∃ g c, r.ch = .slice (some ⟨g, 0, none⟩) r.ks.length c) (hxs : r.xs = []) (hl : r.ks.length ≤ wd)
    (hsz : r.sz = (r.ks.flatMap (elems C1 d)).length) (hfi : ∀ x, (r.ks.flatMap (elems C1 d)).head? = some x → r.fi = x) :
    WF (upd C1 b r) wd (d + 1) b ∧ elems (upd C1 b r) (d + 1) b = r.ks.flatMap (elems C1 d) ∧ leaves (upd C1 b r) (d + 1) b = r.ks.flatMap (leaves C1 d) ∧ ids (upd C1 b r) (d + 1) b = b :: r.ks.flatMap (ids C1 d) := by
  have hs : ∀ x ∈ r.ks, ∀ y ∈ ids C1 d x, upd C1 b r y = C1 y := fun x hx y hy => upd_other _ _ (fun e => hb x hx (e ▸ hy))
  simp only [WF, elems, leaves, ids, upd_same]
  rw [fm_elems hs, fm_leaves hs, fm_ids hs]
  refine ⟨⟨hch, hxs, hl, hsz, hfi, fun x hx => ?_⟩, rfl, rfl, rfl⟩
  rw [elems_congr d x (hs x hx)]
  exact ⟨WF_congr d x (hs x hx) (hk x hx).1, (hk x hx).2⟩

theorem sum_len {C1 : Nat → Nd} {wd d : Nat} : ∀ {ks : List Nat}, (∀ x ∈ ks, WF C1 wd d x ∧ elems C1 d x ≠ []) → (ks.map fun x => (C1 x).sz).sum = ((ks.flatMap (elems C1 d)).length : Int)
  | [], _ => by simp
  | x :: ks, h => by
    have ih := sum_len (ks := ks) (fun y hy => h y (by simp [hy]))
    rw [List.map_cons, List.sum_cons, ih, (h x (by simp)).1.size]
    simp

theorem head_fi {C1 : Nat → Nd} {wd d : Nat} {ks : List Nat} (h : ∀ x ∈ ks, WF C1 wd d x ∧ elems C1 d x ≠ []) {k0 : Nat} (h0 : ks[0]? = some k0) : ∀ x, (ks.flatMap (elems C1 d)).head? = some x → (C1 k0).fi = x := by
  intro x hx
  cases ks with
  | nil => simp at h0
  | cons a ks =>
    simp only [List.getElem?_cons_zero, Option.some.injEq] at h0
    subst h0
    have ha := h a (by simp)
    refine ha.1.first x ?_
    obtain ⟨y, ys, hy⟩ := List.exists_cons_of_ne_nil ha.2
    rw [List.flatMap_cons, hy] at hx
    rw [hy]
    exact hx

end Go.Proofs.Ybulkbiy
