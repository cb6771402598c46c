import Derived.Test.YbulkbiyChk8
/-! What both laws need. -/
namespace Go.Proofs.Ybulkbiy
attribute [local go_sem ↓] Go.wp_at_zero Go.wp_at_succ
open Go.RowKit Go.Maps Go.Sort

theorem lvs_of_ne {C : Nat → Nd} {d b : Nat} (h : elems C d b ≠ []) : lvs C d b = leaves C d b := if_neg h

theorem TreeAt.toW {w0 : World} {wd R : Nat} {S : List Int} {w : World} (h : TreeAt w0 wd S R w) : TreeW w0 wd S R w := by
  obtain ⟨d, D, C, P, N, hR, pre, hel, hd⟩ := h
  refine ⟨d, D, C, P, N, hR, pre.wf, pre.idD, pre.idn, pre.srt, ?_, ?_, hel⟩
  · have hl := pre.lk
    simp only [List.nil_append, List.append_nil] at hl
    unfold lvs
    split
    · trivial
    · exact hl
  · have hl := pre.lnd
    simpa using hl

theorem TreeW.toAt {w0 : World} {wd R : Nat} {S : List Int} {w : World} (h : TreeW w0 wd S R w) (hne : S ≠ []) : TreeAt w0 wd S R w := by
  obtain ⟨d, D, C, P, N, hR, wf, hid, hidn, srt, lk, lnd, hel⟩ := h
  have hne' : elems C d R ≠ [] := by rw [hel]; exact hne
  rw [lvs_of_ne hne'] at lk
  exact ⟨d, D, C, P, N, hR, ⟨wf, hid, hidn, srt, by simpa using lk, by simpa using lnd, by simp⟩, hel, .inr hne⟩

theorem TreeAt.below {w0 : World} {wd R : Nat} {S : List Int} {w w' : World} (h : TreeAt w0 wd S R w) (hb : Below w.heap.size w w') : TreeAt w0 wd S R w' := by
  obtain ⟨d, D, C, P, N, hR, r⟩ := h
  exact ⟨d, D, C, P, N, (hR.below hb).rep, r⟩

theorem TreeW.below {w0 : World} {wd R : Nat} {S : List Int} {w w' : World} (h : TreeW w0 wd S R w) (hb : Below w.heap.size w w') : TreeW w0 wd S R w' := by
  obtain ⟨d, D, C, P, N, hR, r⟩ := h
  exact ⟨d, D, C, P, N, (hR.below hb).rep, r⟩

/-- What lies in a block that stood before and is no node's is left alone by remove. -/
structure Aside (w3 w w' : World) : Prop where
  size : w.heap.size ≤ w'.heap.size
  keep : ∀ k, k < w.heap.size → w3.heap.size ≤ k → w'.heap[k]? = w.heap[k]?

/-- remove at the root: what it answers and leaves. w3: a world in which the tree stood; blocks made since are left alone. -/
theorem rem_root {w0 w3 w : World} {wd R : Nat} {S : List Int} (hwd : 2 ≤ wd ∧ wd ≤ 99) (T : TreeAt w0 wd S R w3) (hb : Below w3.heap.size w3 w) (hl : S.length ≤ 1000) (k : Int) :
    Calls Yba.prog 7 #[.pointer (some ⟨R, 0, none⟩), .int .u64 k] w fun e w' => e = .returned (.bool (decide (k ∈ S))) ∧ TreeW w0 wd (S.erase k) R w' ∧ Aside w3 w w' ∧ Below w0.heap.size w0 w' := by
  obtain ⟨d, D, C, P, N, hR, pre, hel, hd⟩ := T
  have hR2 := (hR.below hb).rep
  have hblk : ∀ k, w3.heap.size ≤ k → ∀ b ∈ D, k ∉ blks (C b) b := fun k hk b hbD hm => by
    have := (hR.at_ b hbD).lt hm
    omega
  refine (rem7 w0 wd hwd k d D C P N w R [] [] hR2 pre (by rw [hel]; exact hd) (by rw [hel]; exact hl)).mono ?_
  rintro e w' (⟨hk, rfl, st⟩ | ⟨hk, rfl, C', P', N', q⟩)
  · rw [hel] at hk
    refine ⟨by simp [hk], ?_, ⟨st.keeps.1, fun j hj hj3 => st.keeps.2 j hj (hblk j hj3)⟩, st.rep.bel⟩
    rw [List.erase_of_not_mem hk]
    have TA : TreeAt w0 wd S R w' := ⟨d, D, C, P, N, st.rep, pre, hel, hd⟩
    exact TA.toW
  · have hk' := hk
    rw [hel] at hk'
    refine ⟨by simp [hk'], ?_, ⟨q.st.keeps.1, fun j hj hj3 => q.st.keeps.2 j hj (hblk j hj3)⟩, q.st.rep.bel⟩
    have hlk := q.lk
    simp only [List.nil_append, List.append_nil] at hlk
    refine ⟨d, D, C', P', N', q.st.rep, q.wf, fun x hx => pre.idD x (q.idm x hx), q.idn, ?_, hlk, q.lnd, by rw [q.el, hel]⟩
    rw [q.el]
    exact pre.srt.sublist List.erase_sublist

theorem sorted_nodup : ∀ {S : List Int}, S.Pairwise (· < ·) → S.Nodup
  | [], _ => List.nodup_nil
  | x :: S, h => by
    rw [List.pairwise_cons] at h
    exact List.nodup_cons.2 ⟨fun hm => by have := h.1 x hm; omega, sorted_nodup h.2⟩

theorem erase_filter {S : List Int} (h : S.Pairwise (· < ·)) (k : Int) : S.erase k = S.filter (fun x => !(x == k)) := by
  rw [(sorted_nodup h).erase_eq_filter]
  rfl

/-- The argument, nil or not. -/
def ArgV (w : World) (a : Option Addr) (n : Nat) (K : Nat → Int) : Prop := n = 0 ∨ ∃ b off, a = some ⟨b, off, none⟩ ∧ ∀ i, i < n → w.cell? ⟨b, off + i, none⟩ = some (.int .u64 (K i))

theorem ArgV.toU {w : World} {a : Option Addr} {n : Nat} {K : Nat → Int} (h : ArgV w a n K) : ArgU w a n K := fun i hi => by
  rcases h with rfl | ⟨b, off, e, hc⟩
  · omega
  · exact ⟨b, off, e, hc i hi⟩

theorem ArgV.below {w w' : World} {a : Option Addr} {n : Nat} {K : Nat → Int} (h : ArgV w a n K) (hb : Below w.heap.size w w') : ArgV w' a n K := by
  rcases h with h | ⟨b, off, e, hc⟩
  · exact .inl h
  · exact .inr ⟨b, off, e, fun i hi => (hb.cell (p := ⟨b, off + i, none⟩) (World.block_lt_of_cell? w _ (hc i hi))).trans (hc i hi)⟩

theorem q22e (w : World) (a : Option Addr) (n c n' c' : Nat) : (binOp .eql 22 (.slice a n c) (.slice none n' c')).run Yba.prog w = .ok (.bool a.isNone) w := Lib.run_eql_slice_nil w _ _ a n c n' c' Yba.underlying22

theorem clone13_zero (a : Option Addr) (c : Nat) (w : World) : Calls Yba.prog 13 #[.slice a 0 c] w fun e w' => (∃ a' c', e = .returned (.slice a' 0 c')) ∧ Below w.heap.size w w' := by
  cases a with
  | none =>
    refine (clone13_nil 0 c w).mono ?_
    rintro e w' ⟨rfl, rfl⟩
    exact ⟨⟨_, _, rfl⟩, Below.refl _ _⟩
  | some x =>
    have q := q22e
    go_enter Yba.func13, Yba.ntmps13
    go_wp2_with fail
    go_ret
    exact ⟨⟨_, _, rfl⟩, (Below.refl _ _).alloc (Nat.le_refl _) _⟩

set_option maxHeartbeats 400000 in
theorem set6_zero (a : Option Addr) (c : Nat) (w : World) : Calls Yba.prog 6 #[.slice a 0 c] w fun e w' => (∃ a' c', e = .returned (.slice a' 0 c')) ∧ Below w.heap.size w w' := by
  go_enter Yba.func6, Yba.ntmps6
  go_wp2_with (first | (go_at_call 13; refine (clone13_zero _ _ _).mono ?_; rintro e w' ⟨⟨a', c', rfl⟩, hb⟩) | (go_at_call 14; refine (sort14_zero _ _ _).mono ?_; rintro e w' ⟨rfl, rfl⟩) | (go_at_call 15; refine (compact15_zero _ _ _).mono ?_; rintro e w' ⟨rfl, rfl⟩))
  go_ret
  exact ⟨⟨_, _, rfl⟩, hb⟩

/-- set (6), nil or not. -/
theorem set6g (a : Option Addr) (n c : Nat) (K : Nat → Int) (w : World) (h : ArgV w a n K) (hn : n ≤ 256) :
    Calls Yba.prog 6 #[.slice a n c] w fun e w' => ∃ ma mc, e = .returned (.slice ma (setI K n).length mc) ∧ LiesU w' ma (setI K n) ∧ Below w.heap.size w w' := by
  rcases h with rfl | ⟨b, off, rfl, hc⟩
  · refine (set6_zero a c w).mono ?_
    rintro e w' ⟨⟨a', c', rfl⟩, hb⟩
    exact ⟨a', c', rfl, fun h => absurd h (by simp [setI]), hb⟩
  · refine (set6 b off n c K w hc hn).mono ?_
    rintro e w' ⟨g, cp, rfl, hg, ⟨⟨f, hr, hf⟩, hlen⟩, hb⟩
    rw [setL_eq] at *
    exact ⟨_, _, rfl, fun _ => ⟨g, 0, rfl, fun j hj => by rw [Nat.zero_add, hr.cell (by omega), hf j hj]⟩, hb⟩

end Go.Proofs.Ybulkbiy
