import Derived.Test.YbulkbikOpenB
namespace Go.Proofs.Ybulkbik.lawS0114BMatchesModel
open Go.ChangeShapes Go.WideShapes Go.ChangeAt Go.RowKit Go.Deep
set_option linter.unusedVariables false

/-- THE WALK, for whatever comes in. -/
theorem walk (a : Option Addr) (len cap : Nat) (W : World) (h : len = 0 ∨ ∃ b off kd T it, a = some ⟨b, off, none⟩ ∧ b < W.heap.size ∧ RawB W b off len kd T it) :
    Calls Yba.prog 5 #[.slice a len cap] W fun e w' => e = .returned (.bool true) ∧ Below W.heap.size W w' := by
  by_cases hbig : 256 < len
  · exact (matches5_big a len cap W hbig).mono fun e w' ⟨he, hw⟩ => ⟨he, by rw [hw]; exact Below.refl _ _⟩
  rcases h with rfl | ⟨b, off, kd, T, it, rfl, hb, hraw⟩
  · exact matches5 a 0 cap (fun _ => ⟨#[]⟩) (fun _ => ⟨#[]⟩) (fun _ => 0) W (by omega) (bbuild_zero a cap W _ _ _) (fun i hi => absurd hi (Nat.not_lt_zero _)) (fun i hi => absurd hi (Nat.not_lt_zero _))
  · exact matches5 _ len cap _ _ T W (by omega) (bbuild_any b off len cap kd T it W (by omega) hb hraw) (fun i hi => by have := itemB_size (it i); unfold maxLen; omega) (fun i hi => (hraw i hi).2.2.2.2.2.2.2)

set_option maxRecDepth 100000 in
theorem lifted (os : Os) (started : os.Started) (H : Type) (enc : TypeId × Value → H) :
    ReturnsInHanded {} Yba.checked os 5 .any (Rows.lawS0114BMatchesModelSpec.pre6 enc Yba.prog Yba.f5 Rows.lawS0114BMatchesModelRow.domain false) (Rows.lawS0114BMatchesModelSpec.post enc Yba.prog Yba.f5 false true false false) := by
  refine returnsInHanded_of_change (C := Yba.checked) ownB started (by kernel_rfl) Yba.func5
    (ChangeSpec.witness6 (enc := enc) (C := Yba.checked) false ⟨#[], #[.slice none 0 0], []⟩ 8 (by kernel_rfl) (by kernel_rfl) (by kernel_rfl) (by kernel_rfl)) ?_
  intro W base args ds gs before hval0 hW hcnd _
  have hval : ∀ (j : Nat) t v, Yba.f5.params[j]? = some t → args[j]? = some v → Value.okWide Yba.prog W .any base t v := hval0
  have hW' := hW
  obtain ⟨p, q, hA0, hV, rfl, hfz, hnd⟩ := hW
  have hA : DataW.TrodAll enc Yba.prog W 0 (fun _ => true) true Yba.f5.params.toList args.toList ds p := hA0
  rw [Yba.params5] at hA hval
  obtain ⟨v0, vs0, d0, ds0, p0, q0, hargs, rfl, rfl, h0, r0⟩ := trodAll_cons hA
  obtain ⟨rfl, rfl, rfl⟩ := trodAll_nil r0
  obtain rfl : args = #[v0] := by cases args; simp_all
  obtain ⟨rfl, rfl⟩ := trodVars_none hV
  obtain ⟨a0, len0, cap0, rfl⟩ := okWide_slice Yba.underlying49 (hval 0 49 v0 rfl rfl)
  have k0 := h0
  have lt0 : ∀ x ∈ p0, x.block < W.heap.size := by obtain ⟨m, hm⟩ := k0; exact DataW.trod_lt m _ _ _ hm
  have w0 : len0 = 0 ∨ ∃ b off kd T it, a0 = some ⟨b, off, none⟩ ∧ b < W.heap.size ∧ RawB W b off len0 kd T it := by
    obtain ⟨fuel, hf⟩ := h0
    exact open_rawB (by simpa [Value.cells] using hf)
  clear hA0 hval0
  refine (walk a0 len0 cap0 W w0).mono fun e W' ⟨he, bel⟩ => ?_
  subst he
  exact ⟨_, rfl, _, _, _, [], _, [], hW', trodAll_mk1 (shut_bool Yba.underlying4 _), (trodAll_cons_mk (Below.trod laidOutBB (by kernel_rfl) (of_decide_eq_true (by kernel_rfl)) k0 bel lt0) trodAll_mk0), rfl, bel.frame _, fun h => by cases h⟩

theorem over : Rows.lawS0114BMatchesModelRow.holds Yba.pinned (OpenSpec.ofChange Rows.lawS0114BMatchesModelSpec) :=
  OpenClaim.holds_of_wide 5 Yba.f5 rfl rfl rfl rfl rfl rfl rfl ⟨rfl, rfl, rfl, rfl, rfl⟩ rfl rfl rfl rfl rfl (by kernel_rfl) Yba.func5 (by kernel_rfl)
    (of_decide_eq_true (by kernel_rfl)) (by unfold Func.isWrapper; first | (rw [if_pos (by decide +kernel)]; kernel_rfl) | (rw [if_neg (by decide +kernel)]; exact ⟨rfl, rfl⟩))
    (fun os started H enc _ => lifted os started H enc)

theorem proved : Rows.LawS0114BMatchesModelSaid := over
#print axioms proved
end Go.Proofs.Ybulkbik.lawS0114BMatchesModel
