import Derived.Test.YbulkbiySt
/-! insert at an inner node: the answer put together. -/
namespace Go.Proofs.Ybulkbiy
open Go.RowKit Go.Maps Go.Sort

theorem insK_ne (k : Int) (xs : List Int) : insK k xs ≠ [] := by
  unfold insK; simp

theorem close0 {w0 : World} {D : List Nat} {C : Nat → Nd} {W : World} {wd d b : Nat} {k : Int} {A B : List Nat} {D1 : List Nat} {C1 : Nat → Nd} {P1 N1 : Nat → Option Nat} {ks' : List Nat}
    (kd : Kids D C wd d b A B (insK k (elems C (d + 1) b)) D1 C1 P1 N1 ks') (hbD : b ∈ ids C (d + 1) b) {r : Nd} (hks : r.ks = ks') (hch : ∃ g c, r.ch = .slice (some ⟨g, 0, none⟩) r.ks.length c) (hxs : r.xs = []) (hl : r.ks.length ≤ wd)
    (hsz : r.sz = (r.ks.flatMap (elems C1 d)).length) (hfi : ∀ x, (r.ks.flatMap (elems C1 d)).head? = some x → r.fi = x) {w2 : World} (st : St w0 D C W D1 (upd C1 b r) P1 N1 w2) :
    InsPost w0 D C W wd (d + 1) b k A B none D1 (upd C1 b r) P1 N1 w2 := by
  subst hks
  obtain ⟨u1, u2, u3, u4⟩ := node_up kd.wf kd.bn hch hxs hl hsz hfi
  refine ⟨st.rep, st.keeps, st.grows, kd.sub, u1, fun u hu => (by cases hu), ?_, ?_, ?_, ?_, fun x hx hn => ?_, ?_, fun x hx => ?_⟩
  · rw [u2, kd.el]; exact insK_ne _ _
  · rw [u2, kd.el]; simp
  · rw [u3]; simpa using kd.lk
  · rw [u3]; simpa using kd.lnd
  · rw [upd_other _ _ (fun e => hn (by rw [e]; exact hbD))]; exact kd.out x hx hn
  · rw [u4]
    simp only [Option.toList_none, List.flatMap_nil, List.append_nil, List.nodup_cons]
    refine ⟨fun hb => ?_, kd.idn⟩
    obtain ⟨x, hx, hbx⟩ := List.mem_flatMap.1 hb
    exact kd.bn x hx hbx
  · rw [u4] at hx
    simp only [Option.toList_none, List.flatMap_nil, List.append_nil] at hx
    rcases List.mem_cons.1 hx with rfl | hx
    · exact ⟨kd.bD, .inl hbD⟩
    · exact kd.idm x hx

theorem close1 {w0 : World} {D : List Nat} {C : Nat → Nd} {W : World} {wd d b u : Nat} {k : Int} {A B : List Nat} {D1 : List Nat} {C1 : Nat → Nd} {P1 N1 P2 N2 : Nat → Option Nat} {ks' : List Nat}
    (kd : Kids D C wd d b A B (insK k (elems C (d + 1) b)) D1 C1 P1 N1 ks') (hbD : b ∈ ids C (d + 1) b) (hab : ∀ x, x ∈ A ∨ x ∈ B → x ∈ D) (hu : u ∉ D1) {r1 r2 : Nd} (hks : r1.ks ++ r2.ks = ks') (hn1 : r1.ks ≠ []) (hn2 : r2.ks ≠ [])
    (hch1 : ∃ g c, r1.ch = .slice (some ⟨g, 0, none⟩) r1.ks.length c) (hxs1 : r1.xs = []) (hl1 : r1.ks.length ≤ wd) (hsz1 : r1.sz = (r1.ks.flatMap (elems C1 d)).length) (hfi1 : ∀ x, (r1.ks.flatMap (elems C1 d)).head? = some x → r1.fi = x)
    (hch2 : ∃ g c, r2.ch = .slice (some ⟨g, 0, none⟩) r2.ks.length c) (hxs2 : r2.xs = []) (hl2 : r2.ks.length ≤ wd) (hsz2 : r2.sz = (r2.ks.flatMap (elems C1 d)).length) (hfi2 : ∀ x, (r2.ks.flatMap (elems C1 d)).head? = some x → r2.fi = x)
    (hP : ∀ x ∈ D1, P2 x = P1 x ∧ N2 x = N1 x) {w2 : World} (st : St w0 D C W (u :: D1) (upd (upd C1 b r1) u r2) P2 N2 w2) :
    InsPost w0 D C W wd (d + 1) b k A B (some u) (u :: D1) (upd (upd C1 b r1) u r2) P2 N2 w2 := by
  subst hks
  have m1 : ∀ x ∈ r1.ks, x ∈ r1.ks ++ r2.ks := fun x hx => List.mem_append.2 (.inl hx)
  have m2 : ∀ x ∈ r2.ks, x ∈ r1.ks ++ r2.ks := fun x hx => List.mem_append.2 (.inr hx)
  have hub : u ≠ b := fun e => hu (e ▸ kd.bD)
  have hun : ∀ x ∈ r1.ks ++ r2.ks, u ∉ ids C1 d x := fun x hx h => hu (kd.idm u (List.mem_flatMap.2 ⟨x, hx, h⟩)).1
  obtain ⟨a1, a2, a3, a4⟩ := node_up (b := b) (fun x hx => kd.wf x (m1 x hx)) (fun x hx => kd.bn x (m1 x hx)) hch1 hxs1 hl1 hsz1 hfi1
  have s2 : ∀ x ∈ r2.ks, ∀ y ∈ ids C1 d x, upd C1 b r1 y = C1 y := fun x hx y hy => upd_other _ _ (fun e => kd.bn x (m2 x hx) (e ▸ hy))
  obtain ⟨b1, b2, b3, b4⟩ := node_up (C1 := upd C1 b r1) (b := u) (r := r2) (wd := wd) (d := d) (fun x hx => by
      rw [elems_congr d x (s2 x hx)]
      exact ⟨WF_congr d x (s2 x hx) (kd.wf x (m2 x hx)).1, (kd.wf x (m2 x hx)).2⟩) (fun x hx => by rw [ids_congr d x (s2 x hx)]; exact hun x (m2 x hx)) hch2 hxs2 hl2 (by rw [fm_elems s2]; exact hsz2) (by rw [fm_elems s2]; exact hfi2)
  rw [fm_elems s2] at b2
  rw [fm_leaves s2] at b3
  rw [fm_ids s2] at b4
  have sb : ∀ y ∈ ids (upd C1 b r1) (d + 1) b, upd (upd C1 b r1) u r2 y = upd C1 b r1 y := fun y hy => upd_other _ _ (fun e => by
    rw [a4] at hy
    rcases List.mem_cons.1 hy with h | h
    · exact hub (e.symm.trans h)
    · obtain ⟨x, hx, hyx⟩ := List.mem_flatMap.1 h
      exact hun x (m1 x hx) (e ▸ hyx))
  have e1 := elems_congr (d + 1) b sb
  have e2 := leaves_congr (d + 1) b sb
  have e3 := ids_congr (d + 1) b sb
  rw [a2] at e1
  rw [a3] at e2
  rw [a4] at e3
  have hel := kd.el
  rw [List.flatMap_append] at hel
  have hid := kd.idn
  have hidm := kd.idm
  rw [List.flatMap_append] at hid hidm
  have hlk := kd.lk
  have hlnd := kd.lnd
  rw [List.flatMap_append] at hlk hlnd
  have ne : ∀ ks : List Nat, ks ≠ [] → (∀ x ∈ ks, x ∈ r1.ks ++ r2.ks) → ks.flatMap (elems C1 d) ≠ [] := fun ks hk hm e => by
    obtain ⟨x, xs, rfl⟩ := List.exists_cons_of_ne_nil hk
    simp only [List.flatMap_cons, List.append_eq_nil_iff] at e
    exact (kd.wf x (hm x (by simp))).2 e.1
  refine ⟨st.rep, st.keeps, st.grows, fun x hx => List.mem_cons_of_mem _ (kd.sub x hx), WF_congr _ _ sb a1, fun v hv => ?_, ?_, ?_, ?_, ?_, fun x hx hn => ?_, ?_, fun x hx => ?_⟩
  · cases hv
    exact ⟨b1, by rw [b2]; exact ne _ hn2 m2⟩
  · rw [e1]; exact ne _ hn1 m1
  · simp only [Option.toList_some, List.flatMap_cons, List.flatMap_nil, List.append_nil]
    rw [e1, b2, hel]
  · simp only [Option.toList_some, List.flatMap_cons, List.flatMap_nil, List.append_nil]
    rw [e2, b3]
    refine Lk_congr (fun x hx => ?_) hlk
    refine hP x ?_
    simp only [List.mem_append] at hx
    rcases hx with (hx | hx) | hx
    · exact kd.sub x (hab x (.inl hx))
    · refine (hidm x ?_).1
      simp only [List.mem_append, List.mem_flatMap] at hx ⊢
      rcases hx with ⟨q, hq, hx⟩ | ⟨q, hq, hx⟩
      · exact .inl ⟨q, hq, leaves_ids _ _ _ hx⟩
      · exact .inr ⟨q, hq, leaves_ids _ _ _ hx⟩
    · exact kd.sub x (hab x (.inr hx))
  · simp only [Option.toList_some, List.flatMap_cons, List.flatMap_nil, List.append_nil]
    rw [e2, b3]; exact hlnd
  · rw [upd_other _ _ (fun e => hu (by rw [← e]; exact kd.sub x hx)), upd_other _ _ (fun e => hn (by rw [e]; exact hbD))]; exact kd.out x hx hn
  · simp only [Option.toList_some, List.flatMap_cons, List.flatMap_nil, List.append_nil]
    rw [e3, b4, List.nodup_append]
    rw [List.nodup_append] at hid
    refine ⟨List.nodup_cons.2 ⟨fun hb => ?_, hid.1⟩, List.nodup_cons.2 ⟨fun hb => ?_, hid.2.1⟩, fun x hx y hy e => ?_⟩
    · obtain ⟨x, hx, hbx⟩ := List.mem_flatMap.1 hb
      exact kd.bn x (m1 x hx) hbx
    · obtain ⟨x, hx, hbx⟩ := List.mem_flatMap.1 hb
      exact hun x (m2 x hx) hbx
    · subst e
      rcases List.mem_cons.1 hx with rfl | hx
      · rcases List.mem_cons.1 hy with h | hy
        · exact hub h.symm
        · obtain ⟨q, hq, hbx⟩ := List.mem_flatMap.1 hy
          exact kd.bn q (m2 q hq) hbx
      · rcases List.mem_cons.1 hy with rfl | hy
        · obtain ⟨q, hq, hbx⟩ := List.mem_flatMap.1 hx
          exact hun q (m1 q hq) hbx
        · exact hid.2.2 x hx x hy rfl
  · simp only [Option.toList_some, List.flatMap_cons, List.flatMap_nil, List.append_nil] at hx
    rw [e3, b4] at hx
    simp only [List.mem_append, List.mem_cons] at hx
    rcases hx with (rfl | hx) | rfl | hx
    · exact ⟨List.mem_cons_of_mem _ kd.bD, .inl hbD⟩
    · have := hidm x (List.mem_append.2 (.inl hx))
      exact ⟨List.mem_cons_of_mem _ this.1, this.2⟩
    · exact ⟨by simp, .inr (fun h => hu (kd.sub _ h))⟩
    · have := hidm x (List.mem_append.2 (.inr hx))
      exact ⟨List.mem_cons_of_mem _ this.1, this.2⟩

end Go.Proofs.Ybulkbiy
