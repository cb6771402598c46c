import Derived.Test.YbulkbikLawCN
import Derived.Lib.SliceRun
namespace Go.Proofs.Ybulkbik
open Go.RowKit Go.Maps

set_option maxHeartbeats 400000 in
theorem clone21_nil (w : World) : Calls Yba.prog 21 #[.slice none 0 0] w fun e w' => e = .returned (.slice none 0 0) ∧ w' = w := by
  have hnil := fun (w : World) => Lib.run_eql_slice_nil (P := Yba.prog) w 43 21 none 0 0 0 0 Yba.underlying43
  go_enter Yba.func21, Yba.ntmps21
  go_wp2
  go_ret
  exact ⟨rfl, rfl⟩

theorem own_form_any {w : World} {base e size : Nat} {v : Value} {n : Nat} {xs : List Value} (h : w.ownsRow base e size v n xs) : ∃ a cp, v = .slice a n cp := by
  rcases h.2 with ⟨e, rfl⟩ | ⟨g, cap, cur, e, _⟩
  · exact ⟨none, 0, e⟩
  · exact ⟨_, _, e⟩

set_option maxHeartbeats 400000 in
theorem clone21 (x : Addr) (n cap : Nat) (zs : List Int) (w : World) (hn : n ≤ 1024) (hz : zs.length = n) (hc : ∀ i, i < n → w.cell? (x.add i) = some (.int .i32 (zs.getD i 0))) :
    Calls Yba.prog 21 #[.slice (some x) n cap] w fun e w' => ∃ a cp, e = .returned (.slice a n cp) ∧ w'.ownsRow w.heap.size 21 1 (.slice a n cp) n (zs.map (Value.int .i32)) ∧ Below w.heap.size w w' := by
  have hnil := fun (w : World) => Lib.run_eql_slice_nil (P := Yba.prog) w 43 21 (some x) n cap 0 0 Yba.underlying43
  obtain ⟨i0, hi, hz0, hz1, hz2⟩ := info_parts info21
  go_enter Yba.func21, Yba.ntmps21
  have hmade : (w.alloc (.cells #[] 21)).ownsRow w.heap.size 21 1 (.slice (some ⟨w.heap.size, 0, none⟩) 0 0) 0 [] := World.ownsRow_made w #[] 0 (Nat.le_refl _) (by unfold maxLen; omega) rfl
  have hnews : ∀ j u, (zs.map (Value.int .i32))[j]? = some u → (w.alloc (.cells #[] 21)).cell? (x.add j) = some u := by
    intro j u hj
    have hjl : j < n := by
      have := (List.getElem?_eq_some_iff.1 hj).1
      simpa [hz] using this
    have := hc j hjl
    rw [World.cell?_alloc_lt _ _ _ (by have := World.block_lt_of_cell? w _ this; exact this), this]
    simp [hz, hjl] at hj ⊢
    exact hj
  go_wp2_with (first | (at_builtin; (refine wpList_append_own _ rfl _ _ 43 rfl w.heap.size 21 i0 (.int .i32 0) 1 4 Yba.underlying43 hi hz0 hz1 hz2 rfl (by decide) _ _ _ rfl hmade x n cap (zs.map (Value.int .i32)) rfl (by simp [hz]) hnews (ints_oneCell .i32 zs) (by unfold maxLen; omega) (by omega) (by simp) ?_; intro v' w3 hown' hgrow hnil2)))
  go_ret
  simp only [Nat.zero_add, List.nil_append] at hown'
  obtain ⟨a, cp, rfl⟩ := own_form_any hown'
  exact ⟨a, cp, rfl, hown', ((Below.refl _ _).alloc (Nat.le_refl _) _).grown hgrow (by simp) (fun k hk => by
    have : some w.heap.size = some k := hk
    cases this
    exact Nat.le_refl _)⟩

/-- A slice of int32 that came in. -/
def IsOf (w : World) (a : Option Addr) (n cap : Nat) (zs : List Int) : Prop :=
  zs.length = n ∧ ((a = none ∧ n = 0 ∧ cap = 0) ∨ ∃ x, a = some x ∧ ∀ i, i < n → w.cell? (x.add i) = some (.int .i32 (zs.getD i 0)))

theorem IsOf.below {w w' : World} {a : Option Addr} {n cap : Nat} {zs : List Int} {B : Nat} (h : IsOf w a n cap zs) (hb : Below B w w') (_hB : B ≤ w.heap.size) (hlt : ∀ x, a = some x → 0 < n → x.block < B) : IsOf w' a n cap zs := by
  obtain ⟨hz, h | ⟨x, rfl, hc⟩⟩ := h
  · exact ⟨hz, .inl h⟩
  · refine ⟨hz, .inr ⟨x, rfl, fun i hi => ?_⟩⟩
    rw [hb.cell (by have := hlt x rfl (by omega); unfold Addr.add; split <;> exact this)]
    exact hc i hi

theorem clone21_any (a : Option Addr) (n cap : Nat) (zs : List Int) (w : World) (hn : n ≤ 1024) (h : IsOf w a n cap zs) :
    Calls Yba.prog 21 #[.slice a n cap] w fun e w' => ∃ a cp, e = .returned (.slice a n cp) ∧ w'.ownsRow w.heap.size 21 1 (.slice a n cp) n (zs.map (Value.int .i32)) ∧ Below w.heap.size w w' := by
  obtain ⟨hz, ⟨rfl, rfl, rfl⟩ | ⟨x, rfl, hc⟩⟩ := h
  · refine (clone21_nil w).mono ?_
    rintro e w' ⟨rfl, rfl⟩
    have : zs = [] := List.eq_nil_of_length_eq_zero hz
    subst this
    exact ⟨none, 0, rfl, World.ownsRow_nil _ _ _ _, Below.refl _ _⟩
  · exact clone21 x n cap zs w hn hz hc

theorem own_at_i32 {w : World} {base : Nat} {a : Option Addr} {cp m : Nat} {l : List Int} (h : w.ownsRow base 21 1 (.slice a m cp) m (l.map (Value.int .i32))) (hl : l.length = m) {q : Nat} (hq : q < m) :
    ∃ gs, a = some ⟨gs, 0, none⟩ ∧ base ≤ gs ∧ gs < w.heap.size ∧ w.cell? ⟨gs, q, none⟩ = some (.int .i32 (l.getD q 0)) := by
  rcases h.2 with ⟨e, h0⟩ | ⟨g, cap, cur, e, hb, hg, r⟩
  · omega
  · simp at e
    obtain ⟨rfl, rfl⟩ := e
    refine ⟨g, rfl, hb, (h.lt g rfl).2, ?_⟩
    have := h.cells (g := g) rfl q (.int .i32 (l.getD q 0)) (by simp [hl, hq])
    rwa [Addr.add_lit, Nat.zero_add] at this

theorem IsOf.at {w : World} {a : Option Addr} {n cap : Nat} {zs : List Int} (h : IsOf w a n cap zs) {q : Nat} (hq : q < n) :
    ∃ b off, a = some ⟨b, off, none⟩ ∧ b < w.heap.size ∧ w.cell? ⟨b, off + q, none⟩ = some (.int .i32 (zs.getD q 0)) := by
  obtain ⟨hz, ⟨_, h0, _⟩ | ⟨x, rfl, hc⟩⟩ := h
  · omega
  · have h0 := hc 0 (by omega)
    have hsp : x.spot = none := by
      unfold World.cell? Addr.add at h0
      split at h0
      · cases hs : x.spot with
        | none => rfl
        | some s => simp [hs] at h0
      · simp at h0
    obtain ⟨b, off, sp⟩ := x
    simp at hsp
    subst hsp
    refine ⟨b, off, rfl, ?_, ?_⟩
    · have := World.block_lt_of_cell? w _ h0
      simpa [Addr.add] using this
    · have := hc q hq
      rwa [Addr.add_lit] at this

theorem info71' : (Yba.prog.info? 71).map (·.size) = some 2 := by kernel_rfl

/-- A pointer is equal to itself. -/
theorem eql_self67 (b o : Nat) (w : World) : (binOp .eql 67 (.pointer (some ⟨b, o, none⟩)) (.pointer (some ⟨b, o, none⟩))).run Yba.prog w = .ok (.bool true) w := by
  have hs : (sameAddr ⟨b, o, none⟩ ⟨b, o, none⟩).run Yba.prog w = .ok true w := by simp [sameAddr]
  obtain ⟨i, hi, hz⟩ := Option.map_eq_some_iff.1 info71'
  have h : ∀ d : Nat, (Op.equalIn (d + 1) 67 (.pointer (some ⟨b, o, none⟩)) (.pointer (some ⟨b, o, none⟩))).run Yba.prog w = .ok true w := fun d => by
    simp [Op.equalIn, run_underlying Yba.underlying67, sizeOf, typeInfo, hi, hz, hs]
  simp only [binOp]
  simp [Op.equal, Op.maxDepth, h 9999]

set_option maxRecDepth 100000 in
set_option maxHeartbeats 1000000 in
theorem cached8 (a0 : Option Addr) (n cap : Nat) (K : Nat → ByteArray) (T : Nat → Int) (S : Nat → ByteArray) (c : Int) (a2 : Option Addr) (m cap2 : Nat) (zs : List Int) (w : World) (hn : n ≤ 1024) (hm : m ≤ 1024) (hcb : CBuilt (.slice a0 n cap) n K T S w) (hof : IsOf w a2 m cap2 zs) (hlt2 : ∀ x, a2 = some x → 0 < m → x.block < w.heap.size) :
    Calls Yba.prog 8 #[.slice a0 n cap, .int .i64 c, .slice a2 m cap2] w fun e w' => e = .returned (.bool true) ∧ Below w.heap.size w w' := by
  go_enter Yba.func8, Yba.ntmps8
  go_wp2_with fail
  refine Calls.mono hcb ?_
  rintro e w1 ⟨rfl, hb1, hr1⟩
  have hl1 := hr1.lt
  have hof1 : IsOf w1 a2 m cap2 zs := hof.below hb1 (by omega) hlt2
  go_wp2_with fail
  refine (clone21_any a2 m cap2 zs _ hm hof1).mono ?_
  rintro e w2 ⟨a, cp, rfl, hown, hb2⟩
  have hof2 : IsOf w2 a2 m cap2 zs := hof1.below hb2 (by omega) (fun x hx h0 => by have := hlt2 x hx h0; omega)
  go_wp2_with fail
  have hp2 : (w2.alloc (.cells #[.int .i64 c, .slice a m cp] 71)).rowIs w2.heap.size 71 2 (fun j => if j = 0 then .int .i64 c else .slice a m cp) :=
    World.rowIs_alloc w2 #[.int .i64 c, .slice a m cp] 71 _ (fun i hi => by
      match i, hi with
      | 0, _ => rfl
      | 1, _ => rfl)
  refine (items19_held (w2.heap.size + 1) w2.heap.size _ c a m cp _ ?_ (hp2.alloc _) rfl rfl).mono ?_
  · go_simp
  rintro e w4 ⟨rfl, rfl⟩
  go_wp2_with fail
  go_loopw [45] (fun i wr => ∃ k : Nat, k ≤ m ∧ i = .int .i64 k ∧ Below w2.heap.size w2 wr ∧ w2.heap.size + 1 + 1 + 1 < wr.heap.size ∧ wr.cell? ⟨w2.heap.size + 1 + 1 + 1, 1, none⟩ = some (.slice a m cp) ∧ wr.cell? ⟨w2.heap.size + 1, 4, none⟩ = some (.pointer (some ⟨w2.heap.size, 0, none⟩)))
    (fun i _ => m - (intOf i).toNat)
  case atStart =>
    exact ⟨0, Nat.zero_le _, rfl, ((((Below.refl _ _).alloc (Nat.le_refl _) _).alloc (by simp) _).alloc (by simp; omega) _).alloc (by simp; omega) _, by simp, by go_simp, by go_simp⟩
  case round =>
    obtain ⟨k, hk, rfl, hbel, hsz, g1, p4⟩ := hrel
    by_cases hltk : k < m
    · have hI0 : (0 : Int) ≤ (k : Int) := by omega
      have hI1 : (k : Int) < (m : Int) := by omega
      obtain ⟨gs, rfl, hgs, hgl, hcq⟩ := own_at_i32 hown hof.1 hltk
      obtain ⟨b, off, rfl, hbl, hcb2⟩ := hof2.at hltk
      have hcq' := (hbel.cell (p := ⟨gs, k, none⟩) hgl).trans hcq
      have hcb' := (hbel.cell (p := ⟨b, off + k, none⟩) hbl).trans hcb2
      go_wp2_with fail
      go_quiet (fail)
      go_wp2_with fail
      go_roundw
      case rel => exact ⟨k + 1, by omega, by go_num, below_drewN hbel _, by simpa using hsz, by go_simp, by go_simp⟩
      case measure => simp [intOf]; omega
    · have hself := eql_self67 w2.heap.size 0
      go_wp2_with fail
      go_ret
      have hs2 := hb2.size
      exact ⟨rfl, (hb1.trans (hb2.mono (by omega))).trans (hbel.mono (by omega))⟩

set_option maxHeartbeats 400000 in
theorem cached8_big (a0 : Option Addr) (n cap : Nat) (c : Int) (a2 : Option Addr) (m cap2 : Nat) (w : World) (hbig : 1024 < n ∨ 1024 < m) :
    Calls Yba.prog 8 #[.slice a0 n cap, .int .i64 c, .slice a2 m cap2] w fun e w' => e = .returned (.bool true) ∧ w' = w := by
  by_cases hn : 1024 < n
  · go_enter Yba.func8, Yba.ntmps8
    go_wp2_with fail
    go_ret
    exact ⟨rfl, rfl⟩
  · have hm : 1024 < m := by omega
    clear hbig
    go_enter Yba.func8, Yba.ntmps8
    go_wp2_with fail
    go_ret
    exact ⟨rfl, rfl⟩

end Go.Proofs.Ybulkbik
