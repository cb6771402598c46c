import Derived.Test.YbulkbiyLeaf
/-! The plain tree over the record function C: elements, leaves, nodes, shape; the leaves' chain. -/
namespace Go.Proofs.Ybulkbiy
open Go.RowKit Go.Maps Go.Sort

def elems (C : Nat → Nd) : Nat → Nat → List Int
  | 0, b => (C b).xs
  | d + 1, b => (C b).ks.flatMap (elems C d)

def leaves (C : Nat → Nd) : Nat → Nat → List Nat
  | 0, b => [b]
  | d + 1, b => (C b).ks.flatMap (leaves C d)

def ids (C : Nat → Nd) : Nat → Nat → List Nat
  | 0, b => [b]
  | d + 1, b => b :: (C b).ks.flatMap (ids C d)

def WF (C : Nat → Nd) (wd : Nat) : Nat → Nat → Prop
  | 0, b => (C b).ch = .slice none 0 0 ∧ (C b).ks = [] ∧ (C b).xs.length ≤ wd ∧ (C b).sz = (C b).xs.length ∧ (∀ x, (C b).xs.head? = some x → (C b).fi = x)
  | d + 1, b => (∃ g c, (C b).ch = .slice (some ⟨g, 0, none⟩) (C b).ks.length c) ∧ (C b).xs = [] ∧ (C b).ks.length ≤ wd ∧ (C b).sz = ((C b).ks.flatMap (elems C d)).length ∧
      (∀ x, ((C b).ks.flatMap (elems C d)).head? = some x → (C b).fi = x) ∧ ∀ k ∈ (C b).ks, WF C wd d k ∧ elems C d k ≠ []

theorem flatMap_congrY {α β : Type} {f g : α → List β} : ∀ {l : List α}, (∀ x ∈ l, f x = g x) → l.flatMap f = l.flatMap g
  | [], _ => rfl
  | x :: l, h => by
    simp only [List.flatMap_cons]
    rw [h x (by simp), flatMap_congrY (l := l) (fun y hy => h y (by simp [hy]))]

section
variable {C C' : Nat → Nd}

theorem ids_self : ∀ (d b : Nat), b ∈ ids C d b
  | 0, _ => by simp [ids]
  | _ + 1, _ => by simp [ids]

theorem ids_kid {d b k : Nat} (hk : k ∈ (C b).ks) {x : Nat} (hx : x ∈ ids C d k) : x ∈ ids C (d + 1) b := by
  simp only [ids, List.mem_cons, List.mem_flatMap]
  exact .inr ⟨k, hk, hx⟩

theorem elems_congr : ∀ (d b : Nat), (∀ x ∈ ids C d b, C' x = C x) → elems C' d b = elems C d b
  | 0, b, h => by simp only [elems]; rw [h b (by simp [ids])]
  | d + 1, b, h => by
    simp only [elems]
    rw [h b (ids_self _ _)]
    exact flatMap_congrY (fun k hk => elems_congr d k (fun x hx => h x (ids_kid hk hx)))

theorem leaves_congr : ∀ (d b : Nat), (∀ x ∈ ids C d b, C' x = C x) → leaves C' d b = leaves C d b
  | 0, b, _ => rfl
  | d + 1, b, h => by
    simp only [leaves]
    rw [h b (ids_self _ _)]
    exact flatMap_congrY (fun k hk => leaves_congr d k (fun x hx => h x (ids_kid hk hx)))

theorem ids_congr : ∀ (d b : Nat), (∀ x ∈ ids C d b, C' x = C x) → ids C' d b = ids C d b
  | 0, b, _ => rfl
  | d + 1, b, h => by
    simp only [ids]
    rw [h b (ids_self _ _)]
    congr 1
    exact flatMap_congrY (fun k hk => ids_congr d k (fun x hx => h x (ids_kid hk hx)))

theorem WF_congr {wd : Nat} : ∀ (d b : Nat), (∀ x ∈ ids C d b, C' x = C x) → WF C wd d b → WF C' wd d b
  | 0, b, h, hw => by
    simp only [WF] at hw ⊢
    rw [h b (by simp [ids])]
    exact hw
  | d + 1, b, h, hw => by
    simp only [WF] at hw ⊢
    rw [h b (ids_self _ _)]
    have e : (C b).ks.flatMap (elems C' d) = (C b).ks.flatMap (elems C d) := flatMap_congrY (fun k hk => elems_congr d k (fun x hx => h x (ids_kid hk hx)))
    rw [e]
    refine ⟨hw.1, hw.2.1, hw.2.2.1, hw.2.2.2.1, hw.2.2.2.2.1, fun k hk => ?_⟩
    rw [elems_congr d k (fun x hx => h x (ids_kid hk hx))]
    exact ⟨WF_congr d k (fun x hx => h x (ids_kid hk hx)) (hw.2.2.2.2.2 k hk).1, (hw.2.2.2.2.2 k hk).2⟩

theorem leaves_ids : ∀ (d b x : Nat), x ∈ leaves C d b → x ∈ ids C d b
  | 0, b, x, h => h
  | d + 1, b, x, h => by
    simp only [leaves, List.mem_flatMap] at h
    obtain ⟨k, hk, hx⟩ := h
    exact ids_kid hk (leaves_ids d k x hx)

theorem WF.size {wd : Nat} : ∀ {d b : Nat}, WF C wd d b → (C b).sz = (elems C d b).length
  | 0, _, h => h.2.2.2.1
  | _ + 1, _, h => h.2.2.2.1

theorem WF.first {wd : Nat} : ∀ {d b : Nat}, WF C wd d b → ∀ x, (elems C d b).head? = some x → (C b).fi = x
  | 0, _, h => h.2.2.2.2
  | _ + 1, _, h => h.2.2.2.2.1

end

/-! ### Counting -/

theorem cut_at (F : Nat → Int) (k : Int) : ∀ n, (∀ i j, i ≤ j → j < n → F i ≤ F j) →
    (List.range n).countP (fun i => !decide (k < F i)) ≤ n ∧ (∀ i, i < (List.range n).countP (fun i => !decide (k < F i)) → F i ≤ k) ∧ (∀ i, (List.range n).countP (fun i => !decide (k < F i)) ≤ i → i < n → k < F i)
  | 0, _ => by simp
  | n + 1, h => by
    obtain ⟨h1, h2, h3⟩ := cut_at F k n (fun i j hij hj => h i j hij (by omega))
    rw [List.range_succ, List.countP_append]
    by_cases hn : k < F n
    · have e : List.countP (fun i => !decide (k < F i)) [n] = 0 := by simp [hn]
      rw [e, Nat.add_zero]
      refine ⟨by omega, h2, fun i hi hin => ?_⟩
      by_cases hie : i = n
      · subst hie; exact hn
      · exact h3 i hi (by omega)
    · have e : List.countP (fun i => !decide (k < F i)) [n] = 1 := by simp [hn]
      rw [e]
      have hcn : (List.range n).countP (fun i => !decide (k < F i)) = n := by
        rcases Nat.lt_or_ge ((List.range n).countP (fun i => !decide (k < F i))) n with hlt | hge
        · have a1 := h3 _ (Nat.le_refl _) hlt
          have a2 := h _ n (by omega : (List.range n).countP (fun i => !decide (k < F i)) ≤ n) (by omega)
          omega
        · omega
      rw [hcn]
      rw [hcn] at h2
      refine ⟨by omega, fun i hi => ?_, fun i hi hin => by omega⟩
      by_cases hie : i = n
      · subst hie; omega
      · exact h2 i (by omega)

/-- The child that childFor picks. -/
def kidAt (C : Nat → Nd) (ks : List Nat) (k : Int) : Nat := (List.range ks.length).countP (fun i => !decide (k < (C ks[i]!).fi)) - 1

theorem kids_order {C : Nat → Nd} {wd d : Nat} {ks : List Nat} (hk : ∀ k ∈ ks, WF C wd d k ∧ elems C d k ≠ []) (hs : (ks.flatMap (elems C d)).Pairwise (· < ·)) {i j : Nat} (hij : i < j) (hj : j < ks.length) :
    (∀ x ∈ elems C d ks[i]!, x < (C ks[j]!).fi) ∧ (∀ y ∈ elems C d ks[j]!, (C ks[j]!).fi ≤ y) := by
  rw [List.pairwise_flatMap] at hs
  have hp := List.pairwise_iff_getElem.1 hs.2 i j (by omega) hj hij
  rw [getElem!_pos ks i (by omega), getElem!_pos ks j hj]
  have hwf := (hk ks[j] (List.getElem_mem _))
  obtain ⟨y0, ys, hys⟩ := List.exists_cons_of_ne_nil hwf.2
  have hfi := hwf.1.first y0 (by rw [hys]; rfl)
  refine ⟨fun x hx => ?_, fun y hy => ?_⟩
  · rw [hfi]; exact hp x hx y0 (by rw [hys]; simp)
  · rw [hfi]
    have hsj := hs.1 ks[j] (List.getElem_mem _)
    rw [hys] at hy hsj
    rw [List.pairwise_cons] at hsj
    rcases List.mem_cons.1 hy with rfl | hy
    · exact Int.le_refl _
    · have := hsj.1 y hy; omega

theorem kids_low {C : Nat → Nd} {wd d : Nat} {ks : List Nat} (hk : ∀ k ∈ ks, WF C wd d k ∧ elems C d k ≠ []) (hs : (ks.flatMap (elems C d)).Pairwise (· < ·)) {j : Nat} (hj : j < ks.length) :
    (∃ y, y ∈ elems C d ks[j]! ∧ (C ks[j]!).fi = y) ∧ (∀ y ∈ elems C d ks[j]!, (C ks[j]!).fi ≤ y) := by
  rw [List.pairwise_flatMap] at hs
  rw [getElem!_pos ks j hj]
  have hwf := (hk ks[j] (List.getElem_mem _))
  obtain ⟨y0, ys, hys⟩ := List.exists_cons_of_ne_nil hwf.2
  have hfi := hwf.1.first y0 (by rw [hys]; rfl)
  refine ⟨⟨y0, by rw [hys]; simp, hfi⟩, fun y hy => ?_⟩
  rw [hfi]
  have hsj := hs.1 ks[j] (List.getElem_mem _)
  rw [hys] at hy hsj
  rw [List.pairwise_cons] at hsj
  rcases List.mem_cons.1 hy with rfl | hy
  · exact Int.le_refl _
  · have := hsj.1 y hy; omega

theorem kids_mono {C : Nat → Nd} {wd d : Nat} {ks : List Nat} (hk : ∀ k ∈ ks, WF C wd d k ∧ elems C d k ≠ []) (hs : (ks.flatMap (elems C d)).Pairwise (· < ·)) (i j : Nat) (hij : i ≤ j) (hj : j < ks.length) : (C ks[i]!).fi ≤ (C ks[j]!).fi := by
  by_cases e : i = j
  · subst e; exact Int.le_refl _
  · obtain ⟨⟨y, hy, he⟩, _⟩ := kids_low hk hs (j := i) (by omega)
    have := (kids_order hk hs (i := i) (j := j) (by omega) hj).1 y hy
    omega

theorem pick {C : Nat → Nd} {wd d : Nat} {ks : List Nat} (hk : ∀ k ∈ ks, WF C wd d k ∧ elems C d k ≠ []) (hs : (ks.flatMap (elems C d)).Pairwise (· < ·)) (hne : ks ≠ []) (k : Int) :
    kidAt C ks k < ks.length ∧ (∀ x ∈ (ks.take (kidAt C ks k)).flatMap (elems C d), x < k) ∧ (∀ x ∈ (ks.drop (kidAt C ks k + 1)).flatMap (elems C d), k < x) := by
  obtain ⟨h1, h2, h3⟩ := cut_at (fun i => (C ks[i]!).fi) k ks.length (kids_mono hk hs)
  have hpos : 0 < ks.length := List.length_pos_iff.2 hne
  unfold kidAt
  generalize (List.range ks.length).countP (fun i => !decide (k < (C ks[i]!).fi)) = c at h1 h2 h3
  refine ⟨by omega, fun x hx => ?_, fun x hx => ?_⟩
  · obtain ⟨q, hq, hxq⟩ := List.mem_flatMap.1 hx
    obtain ⟨i, hi, e⟩ := List.mem_iff_getElem.1 hq
    simp only [List.length_take] at hi
    rw [List.getElem_take] at e
    have hi' : i < ks.length := by omega
    have := (kids_order hk hs (i := i) (j := c - 1) (by omega) (by omega)).1 x (by rw [getElem!_pos ks i hi', e]; exact hxq)
    have := h2 (c - 1) (by omega)
    omega
  · obtain ⟨q, hq, hxq⟩ := List.mem_flatMap.1 hx
    obtain ⟨i, hi, e⟩ := List.mem_iff_getElem.1 hq
    simp only [List.length_drop] at hi
    rw [List.getElem_drop] at e
    have hi' : c - 1 + 1 + i < ks.length := by omega
    have a1 := (kids_low hk hs hi').2 x (by rw [getElem!_pos ks _ hi', e]; exact hxq)
    have a2 := h3 (c - 1 + 1 + i) (by omega) hi'
    omega

theorem split_at {α : Type} [Inhabited α] (ks : List α) {j : Nat} (hj : j < ks.length) : ks = ks.take j ++ ks[j]! :: ks.drop (j + 1) := by
  rw [getElem!_pos ks j hj, ← List.drop_eq_getElem_cons hj, List.take_append_drop]

/-! ### Adding to a list, taking out of it -/

def insK (k : Int) (xs : List Int) : List Int := xs.take (posOf xs k) ++ k :: xs.drop (posOf xs k)

theorem insK_len (k : Int) (xs : List Int) : (insK k xs).length = xs.length + 1 := by
  have := posOf_le xs k
  unfold insK; simp; omega

theorem insK_mid {k : Int} {A e B : List Int} (hA : ∀ x ∈ A, x < k) (hB : ∀ x ∈ B, k < x) : insK k (A ++ e ++ B) = A ++ insK k e ++ B := by
  have h1 : posOf (A ++ e ++ B) k = A.length + posOf e k := by
    have a1 : A.countP (fun x => decide (x < k)) = A.length := List.countP_eq_length.2 (fun x hx => by simpa using hA x hx)
    have a2 : B.countP (fun x => decide (x < k)) = 0 := List.countP_eq_zero.2 (fun x hx => by have := hB x hx; simp; omega)
    unfold posOf
    rw [List.countP_append, List.countP_append, a1, a2]
    omega
  have h2 := posOf_le e k
  unfold insK
  rw [h1, List.append_assoc, List.take_append, List.take_of_length_le (by omega), List.drop_append, List.drop_of_length_le (by omega), Nat.add_sub_cancel_left, List.take_append, List.drop_append, Nat.sub_eq_zero_of_le h2]
  simp

theorem insK_mem {k : Int} {xs : List Int} (x : Int) : x ∈ insK k xs ↔ x = k ∨ x ∈ xs := by
  unfold insK
  rw [List.mem_append, List.mem_cons]
  conv => rhs; rw [← List.take_append_drop (posOf xs k) xs, List.mem_append]
  constructor
  · rintro (h | h | h)
    · exact .inr (.inl h)
    · exact .inl h
    · exact .inr (.inr h)
  · rintro (h | h | h)
    · exact .inr (.inl h)
    · exact .inl h
    · exact .inr (.inr h)

theorem insK_sorted {k : Int} {xs : List Int} (h : xs.Pairwise (· < ·)) (hk : k ∉ xs) : (insK k xs).Pairwise (· < ·) := by
  have hs := posOf_split xs k h
  unfold insK
  rw [List.pairwise_append, List.pairwise_cons]
  refine ⟨h.sublist (List.take_sublist _ _), ⟨fun x hx => ?_, h.sublist (List.drop_sublist _ _)⟩, fun x hx y hy => ?_⟩
  · have := hs.2 x hx
    have : x ≠ k := fun e => hk (e ▸ List.mem_of_mem_drop hx)
    omega
  · have h1 := hs.1 x hx
    rcases List.mem_cons.1 hy with rfl | hy
    · exact h1
    · have := hs.2 y hy; omega

theorem mem_mid {k : Int} {A e B : List Int} (hA : ∀ x ∈ A, x < k) (hB : ∀ x ∈ B, k < x) : k ∈ A ++ e ++ B ↔ k ∈ e := by
  simp only [List.mem_append]
  constructor
  · rintro ((h | h) | h)
    · exact absurd (hA k h) (by omega)
    · exact h
    · exact absurd (hB k h) (by omega)
  · exact fun h => .inl (.inr h)

theorem erase_mid {k : Int} {A e B : List Int} (hA : ∀ x ∈ A, x < k) (hk : k ∈ e) : (A ++ e ++ B).erase k = A ++ e.erase k ++ B := by
  rw [List.append_assoc, List.erase_append_right _ (fun h => by have := hA k h; omega), List.erase_append_left _ hk, List.append_assoc]

/-! ### The leaves' chain -/

def Lk (P N : Nat → Option Nat) : Option Nat → List Nat → Prop
  | _, [] => True
  | pr, b :: L => P b = pr ∧ N b = L.head? ∧ Lk P N (some b) L

theorem Lk_congr {P N P' N' : Nat → Option Nat} : ∀ {pr : Option Nat} {L : List Nat}, (∀ x ∈ L, P' x = P x ∧ N' x = N x) → Lk P N pr L → Lk P' N' pr L
  | _, [], _, _ => trivial
  | pr, b :: L, h, hl => by
    have hb := h b (by simp)
    exact ⟨hb.1.trans hl.1, hb.2.trans hl.2.1, Lk_congr (fun x hx => h x (by simp [hx])) hl.2.2⟩

/-- What the chain says of one of its leaves. -/
theorem Lk_at {P N : Nat → Option Nat} : ∀ {pr : Option Nat} {A : List Nat} {b : Nat} {B : List Nat}, Lk P N pr (A ++ b :: B) → P b = (A.getLast?.or pr) ∧ N b = B.head?
  | pr, [], b, B, h => ⟨by simpa using h.1, h.2.1⟩
  | pr, a :: A, b, B, h => by
    have ih := Lk_at (A := A) h.2.2
    refine ⟨?_, ih.2⟩
    rw [ih.1]
    cases A with
    | nil => simp
    | cons c A => simp [List.getLast?_cons]

/-- A leaf split in two. -/
theorem Lk_split {P N P' N' : Nat → Option Nat} {b u : Nat} {B : List Nat} (hub : N' b = some u) (hpu : P' u = some b) (hnu : N' u = B.head?) (hpb : P' b = P b) (hB : ∀ c, B.head? = some c → P' c = some u) (hN : ∀ c ∈ B, N' c = N c) (hP : ∀ c ∈ B.tail, P' c = P c) :
    ∀ {pr : Option Nat} {A : List Nat}, (∀ x ∈ A, P' x = P x ∧ N' x = N x) → Lk P N pr (A ++ b :: B) → Lk P' N' pr (A ++ b :: u :: B)
  | pr, [], _, h => by
    refine ⟨hpb.trans h.1, hub, hpu, hnu, ?_⟩
    cases B with
    | nil => trivial
    | cons c B =>
      have h2 := h.2.2
      exact ⟨hB c rfl, (hN c (by simp)).trans h2.2.1, Lk_congr (fun x hx => ⟨hP x (by simpa using hx), hN x (by simp [hx])⟩) h2.2.2⟩
  | pr, a :: A, hA, h => by
    have ha := hA a (by simp)
    refine ⟨ha.1.trans h.1, ?_, Lk_split hub hpu hnu hpb hB hN hP (fun x hx => hA x (by simp [hx])) h.2.2⟩
    rw [ha.2, h.2.1]
    cases A <;> rfl

/-- A leaf out of the chain. -/
theorem Lk_drop {P N P' N' : Nat → Option Nat} {b : Nat} {B : List Nat} :
    ∀ {pr : Option Nat} {A : List Nat}, (∀ x ∈ A, P' x = P x) → (∀ x ∈ A.dropLast, N' x = N x) → (∀ x, A.getLast? = some x → N' x = B.head?) → (∀ c, B.head? = some c → P' c = A.getLast?.or pr) → (∀ c ∈ B, N' c = N c) → (∀ c ∈ B.tail, P' c = P c) →
      Lk P N pr (A ++ b :: B) → Lk P' N' pr (A ++ B)
  | pr, [], _, _, _, hB, hN, hP, h => by
    cases B with
    | nil => trivial
    | cons c B =>
      have h2 := h.2.2
      exact ⟨by simpa using hB c rfl, (hN c (by simp)).trans h2.2.1, Lk_congr (fun x hx => ⟨hP x (by simpa using hx), hN x (by simp [hx])⟩) h2.2.2⟩
  | pr, [a], hA, _, hl, hB, hN, hP, h => by
    refine ⟨(hA a (by simp)).trans h.1, hl a rfl, ?_⟩
    cases B with
    | nil => trivial
    | cons c B =>
      have h2 := h.2.2.2.2
      exact ⟨by simpa using hB c rfl, (hN c (by simp)).trans h2.2.1, Lk_congr (fun x hx => ⟨hP x (by simpa using hx), hN x (by simp [hx])⟩) h2.2.2⟩
  | pr, a :: a2 :: A, hA, hA2, hl, hB, hN, hP, h => by
    refine ⟨(hA a (by simp)).trans h.1, ?_, Lk_drop (A := a2 :: A) (pr := some a) (fun x hx => hA x (by simp [hx])) (fun x hx => hA2 x (by simp only [List.dropLast_cons_cons, List.mem_cons]; exact .inr hx)) (fun x hx => hl x (by rw [List.getLast?_cons_cons]; exact hx)) (fun c hc => ?_) hN hP h.2.2⟩
    · rw [hA2 a (by simp), h.2.1]
      rfl
    · rw [hB c hc, List.getLast?_cons_cons, List.getLast?_cons]
      simp

end Go.Proofs.Ybulkbiy
