import Derived.Test.YbulkbiyCloseL
import Derived.StillTailTactics
/-! A region that draws its order: a condition S on the world that holds till the last stores (numbers n and on) begin: loads may be taken first. -/
namespace Go.Proofs.Ybulkbiy
open Go.RowKit Go.Maps Go.Sort

section
variable {P : Program} {ops : Array Oper} {Q : Exit → Act → World → Prop} {md : Region.Mode} {S : World → Prop} {H : Nat → Bool}

def wpAnyT (P : Program) (md : Region.Mode) (ops : Array Oper) (Q : Exit → Act → World → Prop) (S : World → Prop) (H : Nat → Bool) : Nat → Array Bool → Act → World → Prop
  | 0, listed, a, w => Region.ready md ops listed = [] ∧ Q .normal a w
  | fuel + 1, listed, a, w =>
    (Region.ready md ops listed = [] → Q .normal a w) ∧
    ∀ i ∈ Region.ready md ops listed, wpOp P ops Q i (fun a' w' => (H i = true → S w') ∧ wpAnyT P md ops Q S H fuel (listed.setIfInBounds i true) a' w') a w

theorem wpAny_of_T : ∀ (fuel : Nat) (listed : Array Bool) (a : Act) (w : World), wpAnyT P md ops Q S H fuel listed a w → wpAny P md ops Q fuel listed a w
  | 0, _, _, _, h => h
  | fuel + 1, _, _, _, h => ⟨h.1, fun i hi => wpOp_mono (fun a' w' h' => wpAny_of_T fuel _ a' w' h'.2) (h.2 i hi)⟩

def Closed (md : Region.Mode) (ops : Array Oper) (listed : Array Bool) : Prop := ∀ j oj, ops[j]? = some oj → listed.getD j false = true → ∀ e ∈ oj.after, Region.binds md e = true → listed.getD e.on false = true

def closedB (md : Region.Mode) (ops : Array Oper) (listed : Array Bool) : Bool :=
  (List.range ops.size).all fun j => !listed.getD j false || match ops[j]? with
    | some oj => oj.after.all fun e => !Region.binds md e || listed.getD e.on false
    | none => true

theorem closed_of {listed : Array Bool} (h : closedB md ops listed = true) : Closed md ops listed := fun j oj hj hl e he hb => by
  have h1 := List.all_eq_true.1 h j (List.mem_range.2 (Array.getElem?_eq_some_iff.1 hj).1)
  simp only [hl, hj, Bool.not_true, Bool.false_or] at h1
  have h2 := Array.all_eq_true'.1 h1 e he
  simpa [hb] using h2

theorem Closed.set {i : Nat} {listed : Array Bool} (hc : Closed md ops listed) (hi : i ∈ Region.ready md ops listed) : Closed md ops (listed.setIfInBounds i true) := fun j oj hj hl e he hb => by
  obtain ⟨_, oi, hoi, hall⟩ := mem_ready.1 hi
  by_cases hij : i = j
  · subst hij
    have : oj = oi := Option.some.inj (hj.symm.trans hoi)
    subst this
    exact getD_set_true (hall e he hb)
  · rw [getD_set_ne false hij] at hl
    exact getD_set_true (hc j oj hj hl e he hb)

def pathB (md : Region.Mode) (ops : Array Oper) (H : Nat → Bool) (listed : Array Bool) (i : Nat) : Bool :=
  (List.range ops.size).all fun t => H t || listed.getD t false || match ops[t]? with
    | some ot => ot.after.any fun e => Region.binds md e && (e.on == i || Region.waitsFor md ops e.on i)
    | none => true

/-- While i has not come up only head operations come up. -/
def Waits (md : Region.Mode) (ops : Array Oper) (H : Nat → Bool) (listed : Array Bool) (i : Nat) : Prop := ∀ t, t < ops.size → H t = true ∨ listed.getD t false = true ∨ ∃ ot e, ops[t]? = some ot ∧ e ∈ ot.after ∧ Region.binds md e = true ∧ (e.on = i ∨ Region.waitsFor md ops e.on i = true)

theorem waits_of {listed : Array Bool} {i : Nat} (h : pathB md ops H listed i = true) : Waits md ops H listed i := fun t ht => by
  have h1 := List.all_eq_true.1 h t (List.mem_range.2 ht)
  simp only [Bool.or_eq_true] at h1
  rcases h1 with (h1 | h1) | h1
  · exact .inl h1
  · exact .inr (.inl h1)
  · cases hot : ops[t]? with
    | none => rw [Array.getElem?_eq_none_iff] at hot; omega
    | some ot =>
      simp only [hot] at h1
      obtain ⟨e, he, hb⟩ := Array.any_eq_true'.1 h1
      simp only [Bool.and_eq_true, Bool.or_eq_true, beq_iff_eq] at hb
      exact .inr (.inr ⟨ot, e, rfl, he, hb.1, hb.2⟩)

theorem Waits.set {i j : Nat} {listed : Array Bool} (h : Waits md ops H listed i) : Waits md ops H (listed.setIfInBounds j true) i := fun t ht => by
  rcases h t ht with h1 | h1 | h1
  · exact .inl h1
  · exact .inr (.inl (getD_set_true h1))
  · exact .inr (.inr h1)

theorem tail_waitsY {i : Nat} {listed : Array Bool} (hp : Waits md ops H listed i) (hc : Closed md ops listed) (hun : listed.getD i true = false) : ∀ t ∈ Region.ready md ops listed, H t = true := fun t ht => by
  obtain ⟨htu, ot, hot, hall⟩ := mem_ready.1 ht
  rcases hp t (Array.getElem?_eq_some_iff.1 hot).1 with h1 | h1 | ⟨o2, e, ho2, he, hb, h3⟩
  · exact h1
  · rw [getD_both htu] at h1; cases h1
  · have : o2 = ot := Option.some.inj (ho2.symm.trans hot)
    subst this
    have h2 := hall e he hb
    rcases h3 with h3 | h3
    · rw [h3, getD_both hun] at h2; cases h2
    · obtain ⟨oj, hoj, e2, he2, hb2, hon⟩ := Region.waitsFor_spec h3
      have h4 := hc e.on oj hoj h2 e2 he2 hb2
      rw [hon, getD_both hun] at h4; cases h4

theorem wpAnyT_first {i : Nat} {oi : Oper} {v : Value} (hi : ops[i]? = some oi) (hsel : ∀ (j : Nat) (o : Oper) cs b, ops[j]? = some o → o.op ≠ .select cs b)
    (hQ : ∀ c a w, Q (.panic c) (a.put oi.dst v) w → Q (.panic c) a w) :
    ∀ (fuel : Nat) (listed : Array Bool) (a : Act) (w : World), Closed md ops listed → Waits md ops H listed i →
      (∀ j oj, ops[j]? = some oj → j ≠ i → listed.getD j true = false → (∀ e ∈ oj.after, Region.binds md e = true → e.on ≠ i) → oi.apart ops oj = true) →
      i ∈ Region.ready md ops listed → YieldsIf P ops S oi v a → S w →
      wpAnyT P md ops Q S H fuel (listed.setIfInBounds i true) (a.put oi.dst v) w → wpAnyT P md ops Q S H (fuel + 1) listed a w := by
  intro fuel
  induction fuel with
  | zero =>
    intro listed a w _ _ _ hr hy hS Hx
    refine ⟨fun h => (by rw [h] at hr; cases hr), fun j hj => ?_⟩
    by_cases hji : j = i
    · subst hji; exact hy.wpOp hi hS ⟨fun _ => hS, Hx⟩
    · have := ready_mono hj hji
      rw [Hx.1] at this
      cases this
  | succ fuel ih =>
    intro listed a w hc hp hfree hr hy hS Hx
    refine ⟨fun h => (by rw [h] at hr; cases hr), fun j hj => ?_⟩
    by_cases hji : j = i
    · subst hji; exact hy.wpOp hi hS ⟨fun _ => hS, Hx⟩
    · have h1 := Hx.2 j (ready_mono hj hji)
      have hjn := tail_waitsY hp hc (mem_ready.1 hr).1 j hj
      obtain ⟨hjun, oj, hoj, hall⟩ := mem_ready.1 hj
      have hnot : ∀ e ∈ oj.after, Region.binds md e = true → e.on ≠ i := fun e he hb heq => by
        have h1 := hall e he hb
        have h0 := (mem_ready.1 hr).1
        rw [heq, getD_both h0] at h1
        cases h1
      have h2 := wpOp_putIf hoj (hfree j oj hoj hji hjun hnot) (fun cs b => hsel i oi cs b hi) (fun cs b => hsel j oj cs b hoj) hQ hy h1
      have hfree' : ∀ k ok, ops[k]? = some ok → k ≠ i → (listed.setIfInBounds j true).getD k true = false →
          (∀ e ∈ ok.after, Region.binds md e = true → e.on ≠ i) → oi.apart ops ok = true := fun k ok hk hki hun hno => by
        refine hfree k ok hk hki ?_ hno
        by_cases hjk : j = k
        · subst hjk; exact hjun
        · rw [getD_set_ne true hjk] at hun; exact hun
      refine wpOp_mono (fun a' w' h3 => ⟨h3.2.1, ih (listed.setIfInBounds j true) a' w' (hc.set hj) hp.set hfree' (ready_mono hr (Ne.symm hji)) h3.1 (h3.2.1 hjn) ?_⟩) h2
      rw [Array.setIfInBounds_comm _ _ hji]
      exact h3.2.2

theorem wpAnyT_take {i : Nat} {oi : Oper} {v : Value} {fuel : Nat} {listed : Array Bool} {a : Act} {w : World} (hi : ops[i]? = some oi)
    (hs : Region.noSelect ops = true) (hf : Region.free md ops listed i = true) (hr : (Region.ready md ops listed).contains i = true) (hp : pathB md ops H listed i = true) (hc : closedB md ops listed = true)
    (hQ : ∀ c a w, Q (.panic c) (a.put oi.dst v) w → Q (.panic c) a w) (hy : YieldsIf P ops S oi v a) (hS : S w)
    (h : wpAnyT P md ops Q S H fuel (listed.setIfInBounds i true) (a.put oi.dst v) w) : wpAnyT P md ops Q S H (fuel + 1) listed a w :=
  wpAnyT_first hi (Region.noSelect_spec hs) hQ fuel listed a w (closed_of hc) (waits_of hp) (Region.free_spec hi hf) (by simpa using hr) hy hS h

/-- What yields in whatever world, and is no head operation, is taken first at any time. -/
theorem wpAnyT_firstW {i : Nat} {oi : Oper} {v : Value} (hi : ops[i]? = some oi) (hH : H i = false) (hsel : ∀ (j : Nat) (o : Oper) cs b, ops[j]? = some o → o.op ≠ .select cs b)
    (hQ : ∀ c a w, Q (.panic c) (a.put oi.dst v) w → Q (.panic c) a w) :
    ∀ (fuel : Nat) (listed : Array Bool) (a : Act) (w : World),
      (∀ j oj, ops[j]? = some oj → j ≠ i → listed.getD j true = false → (∀ e ∈ oj.after, Region.binds md e = true → e.on ≠ i) → oi.apart ops oj = true) →
      i ∈ Region.ready md ops listed → YieldsIf P ops (fun _ => True) oi v a →
      wpAnyT P md ops Q S H fuel (listed.setIfInBounds i true) (a.put oi.dst v) w → wpAnyT P md ops Q S H (fuel + 1) listed a w := by
  intro fuel
  induction fuel with
  | zero =>
    intro listed a w _ hr hy Hx
    refine ⟨fun h => (by rw [h] at hr; cases hr), fun j hj => ?_⟩
    by_cases hji : j = i
    · subst hji; exact hy.wpOp hi trivial ⟨fun h => (by rw [hH] at h; cases h), Hx⟩
    · have := ready_mono hj hji
      rw [Hx.1] at this
      cases this
  | succ fuel ih =>
    intro listed a w hfree hr hy Hx
    refine ⟨fun h => (by rw [h] at hr; cases hr), fun j hj => ?_⟩
    by_cases hji : j = i
    · subst hji; exact hy.wpOp hi trivial ⟨fun h => (by rw [hH] at h; cases h), Hx⟩
    · have h1 := Hx.2 j (ready_mono hj hji)
      obtain ⟨hjun, oj, hoj, hall⟩ := mem_ready.1 hj
      have hnot : ∀ e ∈ oj.after, Region.binds md e = true → e.on ≠ i := fun e he hb heq => by
        have h1 := hall e he hb
        have h0 := (mem_ready.1 hr).1
        rw [heq, getD_both h0] at h1
        cases h1
      have h2 := wpOp_putIf hoj (hfree j oj hoj hji hjun hnot) (fun cs b => hsel i oi cs b hi) (fun cs b => hsel j oj cs b hoj) hQ hy h1
      have hfree' : ∀ k ok, ops[k]? = some ok → k ≠ i → (listed.setIfInBounds j true).getD k true = false →
          (∀ e ∈ ok.after, Region.binds md e = true → e.on ≠ i) → oi.apart ops ok = true := fun k ok hk hki hun hno => by
        refine hfree k ok hk hki ?_ hno
        by_cases hjk : j = k
        · subst hjk; exact hjun
        · rw [getD_set_ne true hjk] at hun; exact hun
      refine wpOp_mono (fun a' w' h3 => ⟨h3.2.1, ih (listed.setIfInBounds j true) a' w' hfree' (ready_mono hr (Ne.symm hji)) h3.1 ?_⟩) h2
      rw [Array.setIfInBounds_comm _ _ hji]
      exact h3.2.2

theorem wpAnyT_takeW {i : Nat} {oi : Oper} {v : Value} {fuel : Nat} {listed : Array Bool} {a : Act} {w : World} (hi : ops[i]? = some oi) (hH : H i = false)
    (hs : Region.noSelect ops = true) (hf : Region.free md ops listed i = true) (hr : (Region.ready md ops listed).contains i = true)
    (hQ : ∀ c a w, Q (.panic c) (a.put oi.dst v) w → Q (.panic c) a w) (hy : YieldsIf P ops (fun _ => True) oi v a)
    (h : wpAnyT P md ops Q S H fuel (listed.setIfInBounds i true) (a.put oi.dst v) w) : wpAnyT P md ops Q S H (fuel + 1) listed a w :=
  wpAnyT_firstW hi hH (Region.noSelect_spec hs) hQ fuel listed a w (Region.free_spec hi hf) (by simpa using hr) hy h

def AllReadyT (P : Program) (md : Region.Mode) (ops : Array Oper) (Q : Exit → Act → World → Prop) (S : World → Prop) (H : Nat → Bool) (fuel : Nat) (listed : Array Bool) (a : Act) (w : World) (rs : List Nat) : Prop :=
  ∀ i ∈ rs, wpOp P ops Q i (fun a' w' => (H i = true → S w') ∧ wpAnyT P md ops Q S H fuel (listed.setIfInBounds i true) a' w') a w

theorem AllReadyT.nil {fuel : Nat} {listed : Array Bool} {a : Act} {w : World} : AllReadyT P md ops Q S H fuel listed a w [] := fun _ h => by cases h

theorem AllReadyT.cons {fuel : Nat} {listed : Array Bool} {a : Act} {w : World} {i : Nat} {o : Oper} {rs : List Nat} (ho : ops[i]? = some o)
    (h : ∀ K' : Act → World → Prop, Shut (∀ a w, (H i = true → S w) → wpAnyT P md ops Q S H fuel (listed.setIfInBounds i true) a w → K' a w) → if Region.wanted o (yielded ops a.tmps) = true then Oper.wp P o a w K' Q else K' (a.put o.dst undef) w)
    (hs : AllReadyT P md ops Q S H fuel listed a w rs) : AllReadyT P md ops Q S H fuel listed a w (i :: rs) := fun j hj => by
  rcases List.mem_cons.1 hj with rfl | hj
  · exact wpOp_step ho (fun K' hK => h K' (fun a w hS hW => hK a w ⟨hS, hW⟩))
  · exact hs j hj

theorem wpAnyT_ready {rs : List Nat} {fuel : Nat} {listed : Array Bool} {a : Act} {w : World} (hr : Region.ready md ops listed = rs) (hne : rs ≠ [])
    (h : AllReadyT P md ops Q S H fuel listed a w rs) : wpAnyT P md ops Q S H (fuel + 1) listed a w := ⟨fun h0 => absurd (hr ▸ h0) hne, hr ▸ h⟩

theorem wpAnyT_done {listed : Array Bool} {a : Act} {w : World} (hr : Region.ready md ops listed = []) (h : Q .normal a w) : ∀ fuel, wpAnyT P md ops Q S H fuel listed a w
  | 0 => ⟨hr, h⟩
  | _ + 1 => ⟨fun _ => h, by rw [hr]; simp⟩

theorem wp_region_T {id : Nat} {a : Act} {w : World} (hm : P.follows .mixedOrders = true) (h : wpAnyT P .any ops Q S H ops.size (Array.replicate ops.size false) a w.drew) : (Code.region id ops true).wp P Q a w :=
  wp_region_any hm (wpAny_of_T _ _ _ _ h)

end

end Go.Proofs.Ybulkbiy
