import Derived.Test.YbulkbikOpenA
import Derived.Test.YbulkbikLawAE
namespace Go.Proofs.Ybulkbik.lawS0114AEdges
open Go.ChangeShapes Go.WideShapes Go.ChangeAt Go.RowKit Go.Deep
set_option linter.unusedVariables false

set_option maxRecDepth 100000 in
set_option maxHeartbeats 1000000 in
theorem big3 (a0 : Option Addr) (m cap : Nat) (A : Nat → Option Addr) (L C : Nat → Nat) (Z : Nat → Nat → Nat) (w : World) (z : Int) (h : RawArg w a0 m A L C Z) (hb : bigA m L = true) :
    Calls Yba.prog 3 #[.int .u8 z, .slice a0 m cap] w fun e w' => e = .returned (.bool true) ∧ w' = w := by
  have c9 := toobig9 a0 m cap A L C Z w h
  rw [hb] at c9
  clear hb h
  go_enter Yba.func3, Yba.ntmps3
  go_wp2_with (first
    | (go_at_call 9; refine c9.mono ?_; rintro e w1 ⟨rfl, rfl⟩))
  go_ret
  exact ⟨rfl, rfl⟩

/-- THE WALK, for whatever comes in. -/
theorem walk (z : Int) (a : Option Addr) (len cap : Nat) (W : World) (h : ∃ A L C Z, RawArg W a len A L C Z) (hz : 0 ≤ z ∧ z ≤ 255) :
    Calls Yba.prog 3 #[.int .u8 z, .slice a len cap] W fun e w' => e = .returned (.bool true) ∧ Below W.heap.size W w' := by
  obtain ⟨A, L, C, Z, hr⟩ := h
  cases hb : bigA len L with
  | true => exact (big3 a len cap A L C Z W z hr hb).mono fun e w' ⟨he, hw⟩ => ⟨he, by rw [hw]; exact Below.refl _ _⟩
  | false =>
    obtain ⟨k, rfl⟩ : ∃ k : Nat, z = (k : Int) := ⟨z.toNat, by omega⟩
    exact edges3 a len cap A L C Z W k (by omega) hr hb

set_option maxRecDepth 100000 in
theorem lifted (os : Os) (started : os.Started) (H : Type) (enc : TypeId × Value → H) :
    ReturnsInHanded {} Yba.checked os 3 .any (Rows.lawS0114AEdgesSpec.pre6 enc Yba.prog Yba.f3 Rows.lawS0114AEdgesRow.domain false) (Rows.lawS0114AEdgesSpec.post enc Yba.prog Yba.f3 false true false false) := by
  refine returnsInHanded_of_change_sized (C := Yba.checked) ownA started (by kernel_rfl) Yba.func3
    (ChangeSpec.witness6 (enc := enc) (C := Yba.checked) false ⟨#[], #[.int .u8 0, .slice none 0 0], []⟩ 8 (by kernel_rfl) (by kernel_rfl) (by kernel_rfl) (by kernel_rfl)) ?_
  intro W base args ds gs before hval0 hW hcnd hsz0 _
  have hsz : (DataW.weightsEach Yba.prog (Yba.f3.params.toList ++ Rows.lawS0114AEdgesSpec.plain.varTypes Yba.prog) (ds ++ gs)).all (· ≤ reachBytes) = true := hsz0
  clear hsz0
  have hval : ∀ (j : Nat) t v, Yba.f3.params[j]? = some t → args[j]? = some v → Value.okWide Yba.prog W .any base t v := hval0
  have hW' := hW
  obtain ⟨p, q, hA0, hV, rfl, hfz, hnd⟩ := hW
  have hA : DataW.TrodAll enc Yba.prog W 0 (fun _ => true) true Yba.f3.params.toList args.toList ds p := hA0
  rw [Yba.params3] at hA hval hsz
  obtain ⟨v0, vs0, d0, ds0, p0, q0, hargs, rfl, rfl, h0, r0⟩ := trodAll_cons hA
  obtain ⟨v1, vs1, d1, ds1, p1, q1, rfl, rfl, rfl, h1, r1⟩ := trodAll_cons r0
  obtain ⟨rfl, rfl, rfl⟩ := trodAll_nil r1
  obtain rfl : args = #[v0, v1] := by cases args; simp_all
  obtain ⟨rfl, rfl⟩ := trodVars_none hV
  obtain ⟨a1, len1, cap1, rfl⟩ := okWide_slice Yba.underlying22 (hval 1 22 v1 rfl rfl)
  have k1 := h1
  have lt1 : ∀ x ∈ p1, x.block < W.heap.size := by obtain ⟨m, hm⟩ := k1; exact DataW.trod_lt m _ _ _ hm
  have w1 : ∃ A L C Z, RawArg W a1 len1 A L C Z := by
    obtain ⟨fuel, hf⟩ := h1
    exact open_rawA (j := 1) (by simpa [Value.cells] using hf) hsz rfl rfl
  obtain ⟨a0, rfl, rfl, rfl, w0⟩ := open_int Yba.underlying5 (hval 0 5 v0 rfl rfl) h0
  have hb0 : 0 ≤ a0 ∧ a0 ≤ 255 := by simpa [Lit.wf, IntKind.min, IntKind.max, IntKind.bits, IntKind.signed] using w0
  clear hA0 hval0 hsz
  refine (walk a0 a1 len1 cap1 W w1 hb0).mono fun e W' ⟨he, bel⟩ => ?_
  subst he
  exact ⟨_, rfl, _, _, _, [], _, [], hW', trodAll_mk1 (shut_bool Yba.underlying4 _), (trodAll_cons_mk (shut_int Yba.underlying5 w0) (trodAll_cons_mk (Below.trod laidOutA (by kernel_rfl) (of_decide_eq_true (by kernel_rfl)) k1 bel lt1) trodAll_mk0)), rfl, bel.frame _, fun h => by cases h⟩

theorem over : Rows.lawS0114AEdgesRow.holds Yba.pinned (OpenSpec.ofChange Rows.lawS0114AEdgesSpec) :=
  OpenClaim.holds_of_wide 3 Yba.f3 rfl rfl rfl rfl rfl rfl rfl ⟨rfl, rfl, rfl, rfl, rfl⟩ rfl rfl rfl rfl rfl (by kernel_rfl) Yba.func3 (by kernel_rfl)
    (of_decide_eq_true (by kernel_rfl)) (by unfold Func.isWrapper; first | (rw [if_pos (by decide +kernel)]; kernel_rfl) | (rw [if_neg (by decide +kernel)]; exact ⟨rfl, rfl⟩))
    (fun os started H enc _ => lifted os started H enc)

theorem proved : Rows.LawS0114AEdgesSaid := over
#print axioms proved
end Go.Proofs.Ybulkbik.lawS0114AEdges
