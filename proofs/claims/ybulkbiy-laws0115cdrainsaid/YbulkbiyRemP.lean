import Derived.Test.YbulkbiyCloseL
/-! remove over the plain tree. -/
namespace Go.Proofs.Ybulkbiy
open Go.RowKit Go.Maps Go.Sort

/-- The leaves that stay in the chain. -/
def lvs (C : Nat → Nd) (d b : Nat) : List Nat := if elems C d b = [] then [] else leaves C d b

structure RemPost (w0 : World) (D : List Nat) (C : Nat → Nd) (W : World) (wd d b : Nat) (k : Int) (A B : List Nat) (C' : Nat → Nd) (P' N' : Nat → Option Nat) (w' : World) : Prop where
  st : St w0 D C W D C' P' N' w'
  wf : WF C' wd d b
  el : elems C' d b = (elems C d b).erase k
  lk : Lk P' N' none (A ++ lvs C' d b ++ B)
  lnd : (leaves C' d b).Nodup
  out : ∀ x ∈ D, x ∉ ids C d b → C' x = C x
  idn : (ids C' d b).Nodup
  idm : ∀ x ∈ ids C' d b, x ∈ ids C d b

theorem Pre.kidsR {w0 : World} {D : List Nat} {C : Nat → Nd} {P N : Nat → Option Nat} {W : World} {wd d b : Nat} {A B : List Nat} (h : Pre D C P N wd (d + 1) b A B) {L R : List Nat} {c : Nat} (hks : (C b).ks = L ++ c :: R) {k : Int}
    (hL : ∀ x ∈ L.flatMap (elems C d), x < k) (hkc : k ∈ elems C d c) {C1 : Nat → Nd} {P1 N1 : Nat → Option Nat} {w1 : World}
    (q : RemPost w0 D C W wd d c k (A ++ L.flatMap (leaves C d)) (R.flatMap (leaves C d) ++ B) C1 P1 N1 w1) {cs : List Nat} (hcs : cs = [c] ∧ elems C1 d c ≠ [] ∨ cs = [] ∧ elems C1 d c = []) :
    Kids D C wd d b A B ((elems C (d + 1) b).erase k) D C1 P1 N1 (L ++ (cs ++ R)) := by
  obtain ⟨hp, hbc, hdis⟩ := h.kid hks
  have hLR : ∀ x ∈ L ++ R, x ∈ (C b).ks := fun x hx => by
    rw [hks]
    rcases List.mem_append.1 hx with hx | hx
    · exact List.mem_append.2 (.inl hx)
    · exact List.mem_append.2 (.inr (List.mem_cons_of_mem _ hx))
  have hc : c ∈ (C b).ks := by rw [hks]; simp
  have hbD : b ∈ D := h.idD b (ids_self _ _)
  have hsib : ∀ x ∈ L ++ R, ∀ y ∈ ids C d x, C1 y = C y := fun x hx y hy => q.out y (h.idD y (ids_kid (hLR x hx) hy)) (hdis x hx y hy).1
  have sL : ∀ x ∈ L, ∀ y ∈ ids C d x, C1 y = C y := fun x hx => hsib x (List.mem_append.2 (.inl hx))
  have sR : ∀ x ∈ R, ∀ y ∈ ids C d x, C1 y = C y := fun x hx => hsib x (List.mem_append.2 (.inr hx))
  have csc : ∀ x ∈ cs, x = c ∧ elems C1 d c ≠ [] := fun x hx => by
    rcases hcs with ⟨rfl, h1⟩ | ⟨rfl, _⟩
    · exact ⟨by simpa using hx, h1⟩
    · simp at hx
  have hmem : ∀ x, x ∈ L ++ (cs ++ R) → x ∈ L ++ R ∨ x ∈ cs := fun x hx => by
    simp only [List.mem_append] at hx ⊢
    rcases hx with hx | hx | hx
    · exact .inl (.inl hx)
    · exact .inr hx
    · exact .inl (.inr hx)
  have ids' : (L ++ (cs ++ R)).flatMap (ids C1 d) = L.flatMap (ids C d) ++ cs.flatMap (ids C1 d) ++ R.flatMap (ids C d) := by
    rw [← fm_ids sL, ← fm_ids sR]; simp [List.flatMap_append]
  have lv' : (L ++ (cs ++ R)).flatMap (leaves C1 d) = L.flatMap (leaves C d) ++ cs.flatMap (leaves C1 d) ++ R.flatMap (leaves C d) := by
    rw [← fm_leaves sL, ← fm_leaves sR]; simp [List.flatMap_append]
  have csid : ∀ y ∈ cs.flatMap (ids C1 d), y ∈ ids C d c := fun y hy => by
    obtain ⟨x, hx, hyx⟩ := List.mem_flatMap.1 hy
    obtain ⟨rfl, _⟩ := csc x hx
    exact q.idm y hyx
  have cslv : ∀ y ∈ cs.flatMap (leaves C1 d), y ∈ ids C d c := fun y hy => by
    obtain ⟨x, hx, hyx⟩ := List.mem_flatMap.1 hy
    obtain ⟨rfl, _⟩ := csc x hx
    exact q.idm y (leaves_ids _ _ _ hyx)
  have hidn := h.idn
  simp only [ids, List.nodup_cons] at hidn
  have hn2 := hidn.2
  rw [hks, sub_mid, List.nodup_append, List.nodup_append] at hn2
  refine ⟨hbD, q.out b hbD hbc, fun _ h => h, fun x hx => ?_, fun x hx => ?_, ?_, ?_, ?_, fun x hx hn => q.out x hx (fun hi => hn (ids_kid hc hi)), ?_, fun x hx => ?_⟩
  · rcases hmem x hx with h1 | h1
    · have := h.wf.2.2.2.2.2 x (hLR x h1)
      rw [elems_congr d x (hsib x h1)]
      exact ⟨WF_congr d x (hsib x h1) this.1, this.2⟩
    · obtain ⟨rfl, h2⟩ := csc x h1
      exact ⟨q.wf, h2⟩
  · rcases hmem x hx with h1 | h1
    · rw [ids_congr d x (hsib x h1)]
      exact fun hb => (hdis x h1 b hb).2 rfl
    · obtain ⟨rfl, h2⟩ := csc x h1
      exact fun hb => hbc (q.idm b hb)
  · have e1 : (L ++ (cs ++ R)).flatMap (elems C1 d) = L.flatMap (elems C d) ++ cs.flatMap (elems C1 d) ++ R.flatMap (elems C d) := by
      rw [← fm_elems sL, ← fm_elems sR]; simp [List.flatMap_append]
    have e2 : cs.flatMap (elems C1 d) = (elems C d c).erase k := by
      rw [← q.el]
      rcases hcs with ⟨rfl, _⟩ | ⟨rfl, h1⟩
      · simp
      · rw [h1]; simp
    rw [e1, e2]
    simp only [elems]
    rw [hks, show (L ++ c :: R).flatMap (elems C d) = L.flatMap (elems C d) ++ elems C d c ++ R.flatMap (elems C d) by simp]
    exact (erase_mid hL hkc).symm
  · rw [lv']
    have e2 : lvs C1 d c = cs.flatMap (leaves C1 d) := by
      unfold lvs
      rcases hcs with ⟨rfl, h1⟩ | ⟨rfl, h1⟩
      · rw [if_neg h1]; simp
      · rw [if_pos h1]; simp
    have := q.lk
    rw [e2] at this
    simp only [List.append_assoc] at this ⊢
    exact this
  · rw [lv', List.nodup_append, List.nodup_append]
    have hl := h.lnd
    simp only [leaves] at hl
    rw [hks, sub_mid, List.nodup_append, List.nodup_append, List.nodup_append, List.nodup_append] at hl
    refine ⟨⟨hl.1.2.1.1.1, ?_, fun y hy z hz e => ?_⟩, hl.1.2.1.2.1, fun y hy z hz e => ?_⟩
    · rcases hcs with ⟨rfl, h1⟩ | ⟨rfl, h1⟩
      · simpa using q.lnd
      · simp
    · subst e
      obtain ⟨x, hx, hyx⟩ := List.mem_flatMap.1 hy
      exact (hdis x (List.mem_append.2 (.inl hx)) y (leaves_ids _ _ _ hyx)).1 (cslv y hz)
    · subst e
      rcases List.mem_append.1 hy with hy | hy
      · exact hl.1.2.1.2.2 y (List.mem_append.2 (.inl hy)) y hz rfl
      · obtain ⟨x, hx, hyx⟩ := List.mem_flatMap.1 hz
        exact (hdis x (List.mem_append.2 (.inr hx)) y (leaves_ids _ _ _ hyx)).1 (cslv y hy)
  · rw [ids', List.nodup_append, List.nodup_append]
    refine ⟨⟨hn2.1.1, ?_, fun y hy z hz e => ?_⟩, hn2.2.1, fun y hy z hz e => ?_⟩
    · rcases hcs with ⟨rfl, h1⟩ | ⟨rfl, h1⟩
      · simpa using q.idn
      · simp
    · subst e
      exact hn2.1.2.2 y hy y (csid y hz) rfl
    · subst e
      rcases List.mem_append.1 hy with hy | hy
      · exact hn2.2.2 y (List.mem_append.2 (.inl hy)) y hz rfl
      · exact hn2.2.2 y (List.mem_append.2 (.inr (csid y hy))) y hz rfl
  · rw [ids'] at hx
    have sb : ∀ (M : List Nat), (∀ z ∈ M, z ∈ L ++ R) → x ∈ M.flatMap (ids C d) → x ∈ D ∧ (x ∈ ids C (d + 1) b ∨ x ∉ D) := fun M hM hx => by
      obtain ⟨y, hy, hxy⟩ := List.mem_flatMap.1 hx
      have := ids_kid (hLR y (hM y hy)) hxy
      exact ⟨h.idD x this, .inl this⟩
    rcases List.mem_append.1 hx with hx | hx
    · rcases List.mem_append.1 hx with hx | hx
      · exact sb L (fun z hz => List.mem_append.2 (.inl hz)) hx
      · have := ids_kid hc (csid x hx)
        exact ⟨h.idD x this, .inl this⟩
    · exact sb R (fun z hz => List.mem_append.2 (.inr hz)) hx

theorem closeR {w0 : World} {D : List Nat} {C : Nat → Nd} {W : World} {wd d b : Nat} {k : Int} {A B : List Nat} {C1 : Nat → Nd} {P1 N1 : Nat → Option Nat} {ks' : List Nat}
    (kd : Kids D C wd d b A B ((elems C (d + 1) b).erase k) D C1 P1 N1 ks') (hbD : b ∈ ids C (d + 1) b) (hid : ∀ x ∈ ids C (d + 1) b, x ∈ D) {r : Nd} (hks : r.ks = ks') (hch : ∃ g c, r.ch = .slice (some ⟨g, 0, none⟩) r.ks.length c) (hxs : r.xs = []) (hl : r.ks.length ≤ wd)
    (hsz : r.sz = (r.ks.flatMap (elems C1 d)).length) (hfi : ∀ x, (r.ks.flatMap (elems C1 d)).head? = some x → r.fi = x) {w2 : World} (st : St w0 D C W D (upd C1 b r) P1 N1 w2) :
    RemPost w0 D C W wd (d + 1) b k A B (upd C1 b r) P1 N1 w2 := by
  subst hks
  obtain ⟨u1, u2, u3, u4⟩ := node_up kd.wf kd.bn hch hxs hl hsz hfi
  have hidm : ∀ x ∈ r.ks.flatMap (ids C1 d), x ∈ ids C (d + 1) b := fun x hx => by
    obtain ⟨h1, h2⟩ := kd.idm x hx
    exact h2.elim id (fun h => absurd h1 h)
  refine ⟨st, u1, u2.trans kd.el, ?_, ?_, fun x hx hn => ?_, ?_, fun x hx => ?_⟩
  · have e : lvs (upd C1 b r) (d + 1) b = r.ks.flatMap (leaves C1 d) := by
      unfold lvs
      split
      · rename_i h0
        rw [u2] at h0
        have hnil : r.ks = [] := by
          cases hk : r.ks with
          | nil => rfl
          | cons x xs =>
            rw [hk] at h0
            simp only [List.flatMap_cons, List.append_eq_nil_iff] at h0
            exact absurd h0.1 (kd.wf x (by rw [hk]; simp)).2
        rw [hnil]; rfl
      · exact u3
    rw [e]; exact kd.lk
  · rw [u3]; exact kd.lnd
  · rw [upd_other _ _ (fun e => hn (by rw [e]; exact hbD))]; exact kd.out x hx hn
  · rw [u4]
    refine List.nodup_cons.2 ⟨fun hb => ?_, kd.idn⟩
    obtain ⟨x, hx, hbx⟩ := List.mem_flatMap.1 hb
    exact kd.bn x hx hbx
  · rw [u4] at hx
    rcases List.mem_cons.1 hx with rfl | hx
    · exact hbD
    · exact hidm x hx

/-- A leaf: something is left. -/
theorem leafR0 {w0 : World} {D : List Nat} {C : Nat → Nd} {W : World} {wd b : Nat} {k : Int} {A B : List Nat} {P N : Nat → Option Nat} (pre : Pre D C P N wd 0 b A B) {r : Nd} (hx : r.xs = (C b).xs.erase k) (hne : r.xs ≠ []) (hch : r.ch = .slice none 0 0) (hks : r.ks = []) (hl : r.xs.length ≤ wd)
    (hsz : r.sz = r.xs.length) (hfi : ∀ x, r.xs.head? = some x → r.fi = x) {w2 : World} (st : St w0 D C W D (upd C b r) P N w2) : RemPost w0 D C W wd 0 b k A B (upd C b r) P N w2 := by
  have hlk := pre.lk
  simp only [leaves] at hlk
  refine ⟨st, ?_, ?_, ?_, by simp [leaves], fun x hx hn => upd_other _ _ (fun e => hn (by rw [e]; simp [ids])), by simp [ids], fun x hx => hx⟩
  · simp only [WF, upd_same]; exact ⟨hch, hks, hl, hsz, hfi⟩
  · simp only [elems, upd_same, hx]
  · unfold lvs
    rw [if_neg (by simp only [elems, upd_same]; exact hne)]
    simpa [leaves] using hlk

/-- A leaf: nothing is left. -/
theorem leafR1 {w0 : World} {D : List Nat} {C : Nat → Nd} {W : World} {wd b : Nat} {k : Int} {A B : List Nat} {P N P' N' : Nat → Option Nat} (pre : Pre D C P N wd 0 b A B) {r : Nd} (hx : r.xs = (C b).xs.erase k) (hne : r.xs = []) (hch : r.ch = .slice none 0 0) (hks : r.ks = [])
    (hsz : r.sz = 0) (hPn : ∀ c, N b = some c → P' c = P b) (hNp : ∀ c, P b = some c → N' c = N b) (hP : ∀ x ∈ D, N b ≠ some x → P' x = P x) (hN : ∀ x ∈ D, P b ≠ some x → N' x = N x)
    {w2 : World} (st : St w0 D C W D (upd C b r) P' N' w2) : RemPost w0 D C W wd 0 b k A B (upd C b r) P' N' w2 := by
  have hlk := pre.lk
  have hlnd := pre.lnd
  simp only [leaves, List.append_assoc, List.singleton_append] at hlk hlnd
  obtain ⟨hPA, hNB⟩ := Lk_at hlk
  rw [List.nodup_append, List.nodup_cons] at hlnd
  rw [Option.or_none] at hPA
  have aD : ∀ x ∈ A, x ∈ D := fun x h => (pre.ab x (.inl h)).1
  have bD : ∀ x ∈ B, x ∈ D := fun x h => (pre.ab x (.inr h)).1
  refine ⟨st, ?_, ?_, ?_, by simp [leaves], fun x hx hn => upd_other _ _ (fun e => hn (by rw [e]; simp [ids])), by simp [ids], fun x hx => hx⟩
  · simp only [WF, upd_same]; rw [hne]; exact ⟨hch, hks, Nat.zero_le _, by simpa using hsz, by simp⟩
  · simp only [elems, upd_same, hx]
  · unfold lvs
    rw [if_pos (by simp only [elems, upd_same]; exact hne), List.append_nil]
    refine Lk_drop (fun x hxA => hP x (aD x hxA) (fun e => ?_)) (fun x hxA => hN x (aD x ((List.dropLast_sublist A).subset hxA)) (fun e => ?_)) (fun x hl => (hNp x (hPA.trans hl)).trans hNB) (fun c hc => ?_) (fun c hc => hN c (bD c hc) (fun e => ?_)) (fun c hc => hP c (bD c (List.mem_of_mem_tail hc)) (fun e => ?_)) hlk
    · rw [hNB] at e
      exact hlnd.2.2 x hxA x (List.mem_cons_of_mem _ (List.mem_of_head? e)) rfl
    · rw [hPA] at e
      have hA : A = A.dropLast ++ [x] := by
        obtain ⟨l, hl⟩ := List.getLast?_eq_some_iff.1 e
        rw [hl]; simp
      have hnd := hlnd.1
      rw [hA, List.nodup_append] at hnd
      exact hnd.2.2 x hxA x (by simp) rfl
    · rw [hPn c (hNB.trans hc), hPA]; simp
    · rw [hPA] at e
      exact hlnd.2.2 c (List.mem_of_getLast? e) c (List.mem_cons_of_mem _ hc) rfl
    · rw [hNB] at e
      cases B with
      | nil => simp at hc
      | cons q B =>
        simp only [List.head?_cons, Option.some.injEq] at e
        subst e
        exact (List.nodup_cons.1 hlnd.2.1.2).1 hc

end Go.Proofs.Ybulkbiy
