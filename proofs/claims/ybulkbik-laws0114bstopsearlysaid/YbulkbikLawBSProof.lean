import Derived.Test.YbulkbikOpenB
import Derived.Test.YbulkbikLawBS
namespace Go.Proofs.Ybulkbik.lawS0114BStopsEarly
open Go.ChangeShapes Go.WideShapes Go.ChangeAt Go.RowKit Go.Deep
set_option linter.unusedVariables false

/-- THE WALK, for whatever comes in. -/
theorem walk (a : Option Addr) (len cap : Nat) (s : Int) (W : World) (h : len = 0 ∨ ∃ b off kd T it, a = some ⟨b, off, none⟩ ∧ b < W.heap.size ∧ RawB W b off len kd T it) (hs : 0 ≤ s ∧ s ≤ 255) :
    Calls Yba.prog 6 #[.slice a len cap, .int .u8 s] W fun e w' => e = .returned (.bool true) ∧ Below W.heap.size W w' := by
  by_cases hbig : 256 < len
  · exact (stops6_big a len cap s W hbig).mono fun e w' ⟨he, hw⟩ => ⟨he, by rw [hw]; exact Below.refl _ _⟩
  obtain ⟨m, rfl⟩ : ∃ m : Nat, s = (m : Int) := ⟨s.toNat, by omega⟩
  rcases h with rfl | ⟨b, off, kd, T, it, rfl, hb, hraw⟩
  · exact stops6 a 0 cap m (fun _ => ⟨#[]⟩) (fun _ => ⟨#[]⟩) (fun _ => 0) W (by omega) (by omega) (bbuild_zero a cap W _ _ _) (fun i hi => absurd hi (Nat.not_lt_zero _)) (fun i hi => absurd hi (Nat.not_lt_zero _))
  · exact stops6 _ len cap m _ _ T W (by omega) (by omega) (bbuild_any b off len cap kd T it W (by omega) hb hraw) (fun i hi => by have := itemB_size (it i); unfold maxLen; omega) (fun i hi => (hraw i hi).2.2.2.2.2.2.2)

set_option maxRecDepth 100000 in
theorem lifted (os : Os) (started : os.Started) (H : Type) (enc : TypeId × Value → H) :
    ReturnsInHanded {} Yba.checked os 6 .any (Rows.lawS0114BStopsEarlySpec.pre6 enc Yba.prog Yba.f6 Rows.lawS0114BStopsEarlyRow.domain false) (Rows.lawS0114BStopsEarlySpec.post enc Yba.prog Yba.f6 false true false false) := by
  refine returnsInHanded_of_change (C := Yba.checked) ownB started (by kernel_rfl) Yba.func6
    (ChangeSpec.witness6 (enc := enc) (C := Yba.checked) false ⟨#[], #[.slice none 0 0, .int .u8 0], []⟩ 8 (by kernel_rfl) (by kernel_rfl) (by kernel_rfl) (by kernel_rfl)) ?_
  intro W base args ds gs before hval0 hW hcnd _
  have hval : ∀ (j : Nat) t v, Yba.f6.params[j]? = some t → args[j]? = some v → Value.okWide Yba.prog W .any base t v := hval0
  have hW' := hW
  obtain ⟨p, q, hA0, hV, rfl, hfz, hnd⟩ := hW
  have hA : DataW.TrodAll enc Yba.prog W 0 (fun _ => true) true Yba.f6.params.toList args.toList ds p := hA0
  rw [Yba.params6] at hA hval
  obtain ⟨v0, vs0, d0, ds0, p0, q0, hargs, rfl, rfl, h0, r0⟩ := trodAll_cons hA
  obtain ⟨v1, vs1, d1, ds1, p1, q1, rfl, rfl, rfl, h1, r1⟩ := trodAll_cons r0
  obtain ⟨rfl, rfl, rfl⟩ := trodAll_nil r1
  obtain rfl : args = #[v0, v1] := by cases args; simp_all
  obtain ⟨rfl, rfl⟩ := trodVars_none hV
  obtain ⟨a0, len0, cap0, rfl⟩ := okWide_slice Yba.underlying49 (hval 0 49 v0 rfl rfl)
  have k0 := h0
  have lt0 : ∀ x ∈ p0, x.block < W.heap.size := by obtain ⟨m, hm⟩ := k0; exact DataW.trod_lt m _ _ _ hm
  have w0 : len0 = 0 ∨ ∃ b off kd T it, a0 = some ⟨b, off, none⟩ ∧ b < W.heap.size ∧ RawB W b off len0 kd T it := by
    obtain ⟨fuel, hf⟩ := h0
    exact open_rawB (by simpa [Value.cells] using hf)
  obtain ⟨a1, rfl, rfl, rfl, w1⟩ := open_int Yba.underlying5 (hval 1 5 v1 rfl rfl) h1
  have hb1 : 0 ≤ a1 ∧ a1 ≤ 255 := by simpa [Lit.wf, IntKind.min, IntKind.max, IntKind.bits, IntKind.signed] using w1
  clear hA0 hval0
  refine (walk a0 len0 cap0 a1 W w0 hb1).mono fun e W' ⟨he, bel⟩ => ?_
  subst he
  exact ⟨_, rfl, _, _, _, [], _, [], hW', trodAll_mk1 (shut_bool Yba.underlying4 _), (trodAll_cons_mk (Below.trod laidOutBB (by kernel_rfl) (of_decide_eq_true (by kernel_rfl)) k0 bel lt0) (trodAll_cons_mk (shut_int Yba.underlying5 w1) trodAll_mk0)), rfl, bel.frame _, fun h => by cases h⟩

theorem over : Rows.lawS0114BStopsEarlyRow.holds Yba.pinned (OpenSpec.ofChange Rows.lawS0114BStopsEarlySpec) :=
  OpenClaim.holds_of_wide 6 Yba.f6 rfl rfl rfl rfl rfl rfl rfl ⟨rfl, rfl, rfl, rfl, rfl⟩ rfl rfl rfl rfl rfl (by kernel_rfl) Yba.func6 (by kernel_rfl)
    (of_decide_eq_true (by kernel_rfl)) (by unfold Func.isWrapper; first | (rw [if_pos (by decide +kernel)]; kernel_rfl) | (rw [if_neg (by decide +kernel)]; exact ⟨rfl, rfl⟩))
    (fun os started H enc _ => lifted os started H enc)

theorem proved : Rows.LawS0114BStopsEarlySaid := over
#print axioms proved
end Go.Proofs.Ybulkbik.lawS0114BStopsEarly
