import Derived.Test.YbulkbiyWalkI
/-! check (8): plain facts on the leaves; slices.Equal (19). -/
namespace Go.Proofs.Ybulkbiy
attribute [local go_sem ↓] Go.wp_at_zero Go.wp_at_succ
open Go.RowKit Go.Maps Go.Sort

theorem leaf_facts {C : Nat → Nd} {wd : Nat} : ∀ (d b : Nat), WF C wd d b → elems C d b ≠ [] → ∀ x ∈ leaves C d b, WF C wd 0 x ∧ (C x).xs ≠ [] ∧ x ∈ ids C d b
  | 0, b, wf, hne, x, hx => by
    simp only [leaves, List.mem_singleton] at hx
    subst hx
    exact ⟨wf, hne, ids_self _ _⟩
  | d + 1, b, wf, hne, x, hx => by
    simp only [leaves, List.mem_flatMap] at hx
    obtain ⟨k, hk, hx⟩ := hx
    have hw := wf.2.2.2.2.2 k hk
    obtain ⟨h1, h2, h3⟩ := leaf_facts d k hw.1 hw.2 x hx
    exact ⟨h1, h2, ids_kid hk h3⟩

theorem leaves_elems {C : Nat → Nd} : ∀ (d b : Nat), (leaves C d b).flatMap (fun x => (C x).xs) = elems C d b
  | 0, b => by simp [leaves, elems]
  | d + 1, b => by
    simp only [leaves, elems]
    rw [List.flatMap_assoc]
    exact flatMap_congrY (fun k _ => leaves_elems d k)

theorem leaves_len {C : Nat → Nd} : ∀ (L : List Nat), (∀ x ∈ L, (C x).xs ≠ []) → L.length ≤ (L.flatMap (fun x => (C x).xs)).length
  | [], _ => by simp
  | x :: L, h => by
    have ih := leaves_len L (fun y hy => h y (by simp [hy]))
    have h1 := List.length_pos_iff.2 (h x (by simp))
    rw [List.flatMap_cons, List.length_append, List.length_cons]
    omega

theorem leaves_ne {C : Nat → Nd} {d b : Nat} (h : elems C d b ≠ []) : leaves C d b ≠ [] := fun e => h (by rw [← leaves_elems, e]; rfl)

/-- The first child of an inner node that holds something. -/
theorem first_kid {C : Nat → Nd} {wd d b : Nat} (wf : WF C wd (d + 1) b) (hne : elems C (d + 1) b ≠ []) : ∃ k0, (C b).ks[0]? = some k0 ∧ WF C wd d k0 ∧ elems C d k0 ≠ [] ∧ (leaves C (d + 1) b).head? = (leaves C d k0).head? := by
  cases hk : (C b).ks with
  | nil => exact absurd (by simp [elems, hk]) hne
  | cons k0 ks =>
    have hw := wf.2.2.2.2.2 k0 (by rw [hk]; simp)
    refine ⟨k0, rfl, hw.1, hw.2, ?_⟩
    simp only [leaves, hk, List.flatMap_cons]
    obtain ⟨y, ys, e⟩ := List.exists_cons_of_ne_nil (leaves_ne hw.2)
    rw [e]; rfl

theorem allEq_selfY : ∀ l : List Int, Lib.allEq (fun x y => x == y) l l = true
  | [] => rfl
  | x :: l => by rw [Lib.allEq, allEq_selfY l]; simp

theorem eq19_zero (A B : Option Addr) (c d : Nat) (w : World) : Calls Yba.prog 19 #[.slice A 0 c, .slice B 0 d] w fun e w' => e = .returned (.bool true) ∧ ∃ q, w' = w.drewN q := by
  go_enter Yba.func19, Yba.ntmps19
  go_wp2_with fail
  go_loopw [13] (fun v wr => v = .int .i64 0 ∧ wr = w) (fun _ _ => 0)
  case atStart => exact ⟨rfl, rfl⟩
  case round =>
    obtain ⟨rfl, rfl⟩ := hrel
    go_wp2_with fail
    go_ret
    exact ⟨rfl, 0, rfl⟩

/-- Where a list of numbers lies. -/
def LiesU (w : World) (A : Option Addr) (l : List Int) : Prop := 0 < l.length → ∃ b o, A = some ⟨b, o, none⟩ ∧ ∀ j, j < l.length → w.cell? ⟨b, o + j, none⟩ = some (.int .u64 l[j]!)

theorem eq19 (A B : Option Addr) (c d : Nat) (l : List Int) (w : World) (hl : l.length ≤ 4096) (hA : LiesU w A l) (hB : LiesU w B l) :
    Calls Yba.prog 19 #[.slice A l.length c, .slice B l.length d] w fun e w' => e = .returned (.bool true) ∧ ∃ q, w' = w.drewN q := by
  by_cases h0 : 0 < l.length
  · obtain ⟨b1, o1, rfl, k1⟩ := hA h0
    obtain ⟨b2, o2, rfl, k2⟩ := hB h0
    have := AnyE.slices_Equal Yba.equalL (Value.int .u64) (fun x y => x == y) (NeqAt.int Yba.prog 23 .u64) b1 o1 l.length c b2 o2 l.length d l l w (Nat.le_refl _) (Nat.le_refl _) (by omega) (by omega) k1 k2
    rw [List.take_length, allEq_selfY] at this
    exact this
  · have e : l.length = 0 := by omega
    rw [e]
    exact eq19_zero A B c d w

theorem lies_own {w : World} {base : Nat} {a : Option Addr} {c : Nat} {l : List Int} (h : w.ownsRow base 23 1 (.slice a l.length c) l.length (l.map (Value.int .u64))) : LiesU w a l := fun h0 => by
  obtain ⟨g, c', e⟩ := own_some h h0
  injection e with e1 e2 e3
  subst e1
  refine ⟨g, 0, rfl, fun j hj => ?_⟩
  rw [Nat.zero_add]
  have h2 : w.ownsRow base 23 1 (.slice (some ⟨g, 0, none⟩) l.length c) l.length (l.map (Value.int .u64)) := h
  exact (own_at h2 (by rw [List.getElem?_map, List.getElem?_eq_getElem hj, getElem!_pos _ j hj]; rfl)).1

theorem LiesU.below {w w' : World} {a : Option Addr} {l : List Int} (h : LiesU w a l) (hb : Below w.heap.size w w') : LiesU w' a l := fun h0 => by
  obtain ⟨b, o, e, hc⟩ := h h0
  exact ⟨b, o, e, fun j hj => (hb.cell (p := ⟨b, o + j, none⟩) (World.block_lt_of_cell? w _ (hc j hj))).trans (hc j hj)⟩

end Go.Proofs.Ybulkbiy
