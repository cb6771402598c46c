import Derived.Test.YbulkbiyClose
/-! insert at a leaf: the answer put together. -/
namespace Go.Proofs.Ybulkbiy
open Go.RowKit Go.Maps Go.Sort

theorem leaf0 {w0 : World} {D : List Nat} {C : Nat → Nd} {W : World} {wd b : Nat} {k : Int} {A B : List Nat} {P N : Nat → Option Nat} (pre : Pre D C P N wd 0 b A B) {r : Nd} (hx : r.xs = insK k (C b).xs) (hch : r.ch = .slice none 0 0) (hks : r.ks = []) (hl : r.xs.length ≤ wd)
    (hsz : r.sz = r.xs.length) (hfi : ∀ x, r.xs.head? = some x → r.fi = x) {w2 : World} (st : St w0 D C W D (upd C b r) P N w2) : InsPost w0 D C W wd 0 b k A B none D (upd C b r) P N w2 := by
  have hlk := pre.lk
  have hlnd := pre.lnd
  simp only [leaves] at hlk hlnd
  refine ⟨st.rep, st.keeps, st.grows, fun _ h => h, ?_, fun u hu => (by cases hu), ?_, ?_, ?_, by simp [leaves], fun x hx hn => upd_other _ _ (fun e => hn (by rw [e]; simp [ids])), by simp [ids], fun x hx => ?_⟩
  · simp only [WF, upd_same]; exact ⟨hch, hks, hl, hsz, hfi⟩
  · simp only [elems, upd_same, hx]; exact insK_ne _ _
  · simp [elems, upd_same, hx]
  · simpa [leaves] using hlk
  · simp only [ids, Option.toList_none, List.flatMap_nil, List.append_nil, List.mem_singleton] at hx
    subst hx
    exact ⟨pre.idD _ (by simp [ids]), .inl (by simp [ids])⟩

theorem leaf1 {w0 : World} {D : List Nat} {C : Nat → Nd} {W : World} {wd b u : Nat} {k : Int} {A B : List Nat} {P N P' N' : Nat → Option Nat} (pre : Pre D C P N wd 0 b A B) (hu : u ∉ D) {r1 r2 : Nd} (hx : r1.xs ++ r2.xs = insK k (C b).xs) (hn1 : r1.xs ≠ []) (hn2 : r2.xs ≠ [])
    (hch1 : r1.ch = .slice none 0 0) (hks1 : r1.ks = []) (hl1 : r1.xs.length ≤ wd) (hsz1 : r1.sz = r1.xs.length) (hfi1 : ∀ x, r1.xs.head? = some x → r1.fi = x)
    (hch2 : r2.ch = .slice none 0 0) (hks2 : r2.ks = []) (hl2 : r2.xs.length ≤ wd) (hsz2 : r2.sz = r2.xs.length) (hfi2 : ∀ x, r2.xs.head? = some x → r2.fi = x)
    (hPu : P' u = some b) (hNu : N' u = N b) (hNb : N' b = some u) (hPn : ∀ c, N b = some c → P' c = some u) (hP : ∀ x ∈ D, N b ≠ some x → P' x = P x) (hN : ∀ x ∈ D, x ≠ b → N' x = N x)
    {w2 : World} (st : St w0 D C W (u :: D) (upd (upd C b r1) u r2) P' N' w2) : InsPost w0 D C W wd 0 b k A B (some u) (u :: D) (upd (upd C b r1) u r2) P' N' w2 := by
  have hbD : b ∈ D := pre.idD b (by simp [ids])
  have hub : u ≠ b := fun e => hu (e ▸ hbD)
  have hlk := pre.lk
  have hlnd := pre.lnd
  simp only [leaves, List.append_assoc, List.singleton_append] at hlk hlnd
  have hNB := (Lk_at hlk).2
  rw [List.nodup_append, List.nodup_cons] at hlnd
  have cb : upd (upd C b r1) u r2 b = r1 := by rw [upd_other _ _ (fun e => hub e.symm), upd_same]
  refine ⟨st.rep, st.keeps, st.grows, fun x h => List.mem_cons_of_mem _ h, ?_, fun v hv => ?_, ?_, ?_, ?_, ?_, fun x hx hn => ?_, ?_, fun x hx => ?_⟩
  · simp only [WF]; rw [cb]; exact ⟨hch1, hks1, hl1, hsz1, hfi1⟩
  · cases hv
    simp only [WF, elems, upd_same]
    exact ⟨⟨hch2, hks2, hl2, hsz2, hfi2⟩, hn2⟩
  · simp only [elems]; rw [cb]; exact hn1
  · simp only [elems, Option.toList_some, List.flatMap_cons, List.flatMap_nil, List.append_nil, upd_same]
    rw [cb]; exact hx
  · simp only [leaves, Option.toList_some, List.flatMap_cons, List.flatMap_nil, List.append_nil, List.append_assoc, List.singleton_append]
    have aD : ∀ x ∈ A, x ∈ D := fun x h => (pre.ab x (.inl h)).1
    have bD : ∀ x ∈ B, x ∈ D := fun x h => (pre.ab x (.inr h)).1
    have hbB : b ∉ B := hlnd.2.1.1
    have ndB : B.Nodup := hlnd.2.1.2
    refine Lk_split hNb hPu (hNu.trans hNB) (hP b hbD (fun e => hbB ?_)) (fun c hc => hPn c (hNB.trans hc)) (fun c hc => hN c (bD c hc) (fun e => hbB (e ▸ hc))) (fun c hc => hP c (bD c (List.mem_of_mem_tail hc)) (fun e => ?_)) (fun x hxA => ⟨hP x (aD x hxA) (fun e => ?_), hN x (aD x hxA) (fun e => hlnd.2.2 x hxA b (by simp) e)⟩) hlk
    · rw [hNB] at e
      exact List.mem_of_head? e
    · rw [hNB] at e
      cases B with
      | nil => simp at hc
      | cons q B =>
        simp only [List.head?_cons, Option.some.injEq] at e
        subst e
        exact (List.nodup_cons.1 ndB).1 hc
    · rw [hNB] at e
      exact hlnd.2.2 x hxA x (List.mem_cons_of_mem _ (List.mem_of_head? e)) rfl
  · simp [leaves]; exact fun e => hub e.symm
  · rw [upd_other _ _ (fun e => hu (by rw [← e]; exact hx)), upd_other _ _ (fun e => hn (by rw [e]; simp [ids]))]
  · simp [ids]; exact fun e => hub e.symm
  · simp only [ids, Option.toList_some, List.flatMap_cons, List.flatMap_nil, List.append_nil, List.mem_append, List.mem_singleton] at hx
    rcases hx with rfl | rfl
    · exact ⟨List.mem_cons_of_mem _ hbD, .inl (by simp [ids])⟩
    · exact ⟨by simp, .inr hu⟩

end Go.Proofs.Ybulkbiy
