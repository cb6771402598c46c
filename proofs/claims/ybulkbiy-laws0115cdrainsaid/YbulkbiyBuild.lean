import Derived.Test.YbulkbiyPlainS
/-! build (5). -/
namespace Go.Proofs.Ybulkbiy
attribute [local go_sem ↓] Go.wp_at_zero Go.wp_at_succ
open Go.RowKit Go.Maps Go.Sort

/-- A tree of the numbers S stands at R. -/
def TreeAt (w0 : World) (wd : Nat) (S : List Int) (R : Nat) (w : World) : Prop :=
  ∃ d D C P N, Rep w0 D C P N w ∧ Pre D C P N wd d R [] [] ∧ elems C d R = S ∧ (d = 0 ∨ S ≠ [])

theorem tree_new (w : World) (wd : Nat) : TreeAt w wd [] w.heap.size (w.alloc (.cells #[.slice none 0 0, .slice none 0 0, .slice none 0 0, .int .u64 0, .int .i64 0, .pointer none, .pointer none] 32)) := by
  refine ⟨0, [w.heap.size], fun _ => ⟨.slice none 0 0, .slice none 0 0, .slice none 0 0, [], [], 0, 0⟩, fun _ => none, fun _ => none, ⟨(Below.refl _ w).alloc (Nat.le_refl _) _, fun b hb => ?_, fun b hb => ?_, fun b hb => ?_, fun b hb c hc hne => ?_⟩, ⟨⟨rfl, rfl, Nat.zero_le _, rfl, by simp⟩, by simp [ids], by simp [ids], by simp [elems], by simp [leaves, Lk], by simp [leaves], by simp⟩, rfl, .inl rfl⟩
  · simp only [List.mem_singleton] at hb
    subst hb
    refine ⟨?_, World.ownsRow_nil _ _ _ _, World.ownsRow_nil _ _ _ _, World.ownsRow_nil _ _ _ _⟩
    refine (World.rowIs_alloc w #[.slice none 0 0, .slice none 0 0, .slice none 0 0, .int .u64 0, .int .i64 0, .pointer none, .pointer none] 32 (ndCell (.slice none 0 0) (.slice none 0 0) (.slice none 0 0) 0 0 none none) (fun i hi => ?_))
    have hi' : i < 7 := hi
    match i, hi' with
    | 0, _ => rfl
    | 1, _ => rfl
    | 2, _ => rfl
    | 3, _ => rfl
    | 4, _ => rfl
    | 5, _ => rfl
    | 6, _ => rfl
  · simp only [List.mem_singleton] at hb; subst hb; exact Nat.le_refl _
  · simp [blks, Value.ownBlock]
  · simp only [List.mem_singleton] at hb hc
    exact absurd (hb.trans hc.symm) hne

/-- The new root's array of two. -/
theorem own_two (w : World) (base : Nat) (hb : base ≤ w.heap.size) (x y : Value) : (w.alloc (.cells #[x, y] 24)).ownsRow base 24 1 (.slice (some ⟨w.heap.size, 0, none⟩) 2 2) 2 [x, y] :=
  ⟨rfl, .inr ⟨w.heap.size, 2, #[x, y], rfl, hb, heap_alloc_new w _, Nat.le_refl _, by simp [maxLen], rfl, rfl⟩⟩

theorem grownBy_alloc (w : World) (o : Obj) : w.grownBy (w.alloc o) none := ⟨rfl, rfl, rfl, by simp, fun k hk _ => Below.heap_alloc _ _ _ hk⟩

/-- A new root over a split. -/
theorem tree_root {w0 : World} {wd d R u : Nat} {k : Int} {D : List Nat} {C : Nat → Nd} {W : World} {D' : List Nat} {C' : Nat → Nd} {P' N' : Nat → Option Nat} {w' : World} (hwd : 2 ≤ wd) (srt : (elems C d R).Pairwise (· < ·)) (hk : k ∉ elems C d R) (q : InsPost w0 D C W wd d R k [] [] (some u) D' C' P' N' w') :
    ∃ C2 P2 N2, Rep w0 ((w'.alloc (.cells #[.pointer (some ⟨R, 0, none⟩), .pointer (some ⟨u, 0, none⟩)] 24)).heap.size :: D') C2 P2 N2 ((w'.alloc (.cells #[.pointer (some ⟨R, 0, none⟩), .pointer (some ⟨u, 0, none⟩)] 24)).alloc (.cells #[.slice none 0 0, .slice none 0 0, .slice (some ⟨w'.heap.size, 0, none⟩) 2 2, .int .u64 0, .int .i64 0, .pointer none, .pointer none] 32)) ∧
      (C2 (w'.heap.size + 1)).ks = [R, u] ∧ (∀ x ∈ [R, u], x ∈ D' ∧ x ≠ w'.heap.size + 1 ∧ C2 x = C' x) ∧
      (∀ (fi sz : Int) (w2 : World), fi = (C2 R).fi → sz = sumK C2 [R, u] → Rep w0 ((w'.heap.size + 1) :: D') (upd C2 (w'.heap.size + 1) { C2 (w'.heap.size + 1) with fi := fi, sz := sz }) P2 N2 w2 → TreeAt w0 wd (insK k (elems C d R)) (w'.heap.size + 1) w2) := by
  have hg := grownBy_alloc w' (.cells #[.pointer (some ⟨R, 0, none⟩), .pointer (some ⟨u, 0, none⟩)] 24)
  have hs : (w'.alloc (.cells #[.pointer (some ⟨R, 0, none⟩), .pointer (some ⟨u, 0, none⟩)] 24)).heap.size = w'.heap.size + 1 := by simp
  have st := new_inner q.rep (K := [R, u]) (own_two w' w0.heap.size q.rep.bel.size _ _) hg (.inr rfl) rfl rfl
  rw [hs] at st ⊢
  obtain ⟨r, hr⟩ : ∃ r, r = w'.heap.size + 1 := ⟨_, rfl⟩
  rw [← hr] at st ⊢
  have hRD : R ∈ D' := (q.idm R (by simp [ids_self])).1
  have huD : u ∈ D' := (q.idm u (by simp [ids_self])).1
  have hrD : r ∉ D' := fun h => by have := node_blk q.rep h; omega
  have hne : ∀ x ∈ D', x ≠ r := fun x hx e => hrD (e ▸ hx)
  have hmem : ∀ x ∈ [R, u], x ∈ D' := fun x hx => by
    simp only [List.mem_cons, List.not_mem_nil, or_false] at hx
    rcases hx with rfl | rfl <;> assumption
  refine ⟨_, _, _, st.rep, by rw [upd_same], fun x hx => ⟨hmem x hx, hne x (hmem x hx), upd_other _ _ (hne x (hmem x hx))⟩, fun fi sz w2 hfi hsz rep2 => ?_⟩
  have cR : ∀ x ∈ D', upd C' r ⟨.slice none 0 0, .slice none 0 0, .slice (some ⟨w'.heap.size, 0, none⟩) 2 2, [], [R, u], 0, 0⟩ x = C' x := fun x hx => upd_other _ _ (hne x hx)
  have hidD : ∀ x ∈ [R, u], ∀ y ∈ ids C' d x, y ∈ D' := fun x hx y hy => (q.idm y (by
    simp only [List.mem_cons, List.not_mem_nil, or_false] at hx
    simp only [Option.toList_some, List.flatMap_cons, List.flatMap_nil, List.append_nil, List.mem_append]
    rcases hx with rfl | rfl
    · exact .inl hy
    · exact .inr hy)).1
  have hwf : ∀ x ∈ [R, u], WF C' wd d x ∧ elems C' d x ≠ [] := fun x hx => by
    simp only [List.mem_cons, List.not_mem_nil, or_false] at hx
    rcases hx with rfl | rfl
    · exact ⟨q.wf, q.ne⟩
    · exact q.wfu _ rfl
  have eC : upd (upd C' r ⟨.slice none 0 0, .slice none 0 0, .slice (some ⟨w'.heap.size, 0, none⟩) 2 2, [], [R, u], 0, 0⟩) r { (upd C' r ⟨.slice none 0 0, .slice none 0 0, .slice (some ⟨w'.heap.size, 0, none⟩) 2 2, [], [R, u], 0, 0⟩) r with fi := fi, sz := sz } = upd C' r ⟨.slice none 0 0, .slice none 0 0, .slice (some ⟨w'.heap.size, 0, none⟩) 2 2, [], [R, u], fi, sz⟩ := by
    rw [upd_same]
    funext x
    by_cases e : x = r
    · subst e; rw [upd_same, upd_same]
    · rw [upd_other _ _ e, upd_other _ _ e, upd_other _ _ e]
  rw [eC] at rep2
  have hsum : sz = (([R, u].flatMap (elems C' d)).length : Int) := by
    rw [hsz, sumK_congr (C := C') (fun x hx => cR x (hmem x hx))]
    exact sum_len hwf
  have hfi2 : fi = (C' R).fi := by rw [hfi, cR R hRD]
  obtain ⟨n1, n2, n3, n4⟩ := node_up (C1 := C') (b := r) (r := ⟨.slice none 0 0, .slice none 0 0, .slice (some ⟨w'.heap.size, 0, none⟩) 2 2, [], [R, u], fi, sz⟩) hwf (fun x hx hr => hrD (hidD x hx r hr)) ⟨w'.heap.size, 2, rfl⟩ rfl hwd hsum (by rw [hfi2]; exact head_fi hwf rfl)
  have hel : [R, u].flatMap (elems C' d) = insK k (elems C d R) := by
    rw [← q.el]; simp
  refine ⟨d + 1, r :: D', _, _, _, rep2, ⟨n1, fun x hx => ?_, ?_, ?_, ?_, ?_, by simp⟩, n2.trans hel, .inr (insK_ne _ _)⟩
  · rw [n4] at hx
    rcases List.mem_cons.1 hx with rfl | hx
    · simp
    · obtain ⟨y, hy, hxy⟩ := List.mem_flatMap.1 hx
      exact List.mem_cons_of_mem _ (hidD y hy x hxy)
  · rw [n4]
    refine List.nodup_cons.2 ⟨fun hx => ?_, by simpa using q.idn⟩
    obtain ⟨y, hy, hxy⟩ := List.mem_flatMap.1 hx
    exact hrD (hidD y hy r hxy)
  · rw [n2, hel]; exact insK_sorted srt hk
  · rw [n3]
    have hlk := q.lk
    simp only [List.nil_append, List.append_nil, Option.toList_some, List.flatMap_cons, List.flatMap_nil] at hlk ⊢
    refine Lk_congr (fun x hx => ?_) hlk
    have hxD : x ∈ D' := by
      rcases List.mem_append.1 hx with hx | hx
      · exact hidD R (by simp) x (leaves_ids _ _ _ hx)
      · exact hidD u (by simp) x (leaves_ids _ _ _ hx)
    exact ⟨upd_other _ _ (hne x hxD), upd_other _ _ (hne x hxD)⟩
  · rw [n3]
    have := q.lnd
    simpa using this

end Go.Proofs.Ybulkbiy
