import Derived.Test.YbulkbikLawCC
import Derived.Test.YbulkbikOpenC
namespace Go.Proofs.Ybulkbik.lawS0114CCached
open Go.ChangeShapes Go.WideShapes Go.ChangeAt Go.RowKit Go.Deep
set_option linter.unusedVariables false

/-- THE WALK, for whatever comes in. -/
theorem walk (a : Option Addr) (len cap : Nat) (c : Int) (a2 : Option Addr) (m cap2 : Nat) (zs : List Int) (W : World) (h : len = 0 ∨ ∃ b off kd T S, a = some ⟨b, off, none⟩ ∧ b < W.heap.size ∧ RawC W b off len kd T S) (hof : IsOf W a2 m cap2 zs) :
    Calls Yba.prog 8 #[.slice a len cap, .int .i64 c, .slice a2 m cap2] W fun e w' => e = .returned (.bool true) ∧ Below W.heap.size W w' := by
  by_cases hbig : 1024 < len ∨ 1024 < m
  · exact (cached8_big a len cap c a2 m cap2 W hbig).mono fun e w' ⟨he, hw⟩ => ⟨he, by rw [hw]; exact Below.refl _ _⟩
  have hlt2 : ∀ x, a2 = some x → 0 < m → x.block < W.heap.size := fun x hx h0 => by
    obtain ⟨b, off, e, hb, _⟩ := hof.at h0
    rw [hx] at e
    cases e
    exact hb
  rcases h with rfl | ⟨b, off, kd, T, S, rfl, hb, hraw⟩
  · exact cached8 a 0 cap (fun _ => ⟨#[]⟩) (fun _ => 0) (fun _ => ⟨#[]⟩) c a2 m cap2 zs W (by omega) (by omega) (cbuild_zero a cap W _ _ _) hof hlt2
  · exact cached8 _ len cap _ T S c a2 m cap2 zs W (by omega) (by omega) (cbuild_any b off len cap kd T S W (by omega) hb hraw) hof hlt2

/-- The slice of int32, opened. -/
theorem open_of {H : Type} {enc : TypeId × Value → H} {W : World} {spare : Nat → Bool} {held : Bool} {fuel : Nat} {a : Option Addr} {len cap : Nat} {x : DataW H × List MemPlace}
    (h : DataW.trod enc Yba.prog W 0 spare held fuel 43 [.slice a len cap] = some x) : ∃ zs, IsOf W a len cap zs := by
  rcases open_slice1 Yba.underlying43 cells21 h with ⟨hcs, _⟩ | ⟨ad, len', cap', mm, n, V, D, Pl, hcs, _, hl, hm, hmm, _, hx⟩
  · simp at hcs
    exact ⟨[], by simp [hcs], .inl hcs⟩
  simp at hcs
  obtain ⟨rfl, rfl, rfl⟩ := hcs
  have hlm : len ≤ mm := by rw [hmm]; split <;> omega
  have each : ∀ i, i < len → ∃ z : Int, W.cell? (ad.add i) = some (.int .i32 z) := fun i hi => by
    obtain ⟨c0, t0⟩ := hx i (by omega)
    obtain ⟨z, e, _, _⟩ := DataW.trod_int Yba.underlying21 t0
    simp at e
    exact ⟨z, by rw [c0, e]⟩
  obtain ⟨q, hq⟩ := choose_lt each
  refine ⟨(List.range len).map q, by simp, .inr ⟨ad, rfl, fun i hi => ?_⟩⟩
  rw [hq i hi]
  simp [hi]

set_option maxRecDepth 100000 in
theorem lifted (os : Os) (started : os.Started) (H : Type) (enc : TypeId × Value → H) :
    ReturnsInHanded {} Yba.checked os 8 .any (Rows.lawS0114CCachedSpec.pre6 enc Yba.prog Yba.f8 Rows.lawS0114CCachedRow.domain false) (Rows.lawS0114CCachedSpec.post enc Yba.prog Yba.f8 false true false false) := by
  refine returnsInHanded_of_change (C := Yba.checked) own started (by kernel_rfl) Yba.func8
    (ChangeSpec.witness6 (enc := enc) (C := Yba.checked) false ⟨#[], #[.slice none 0 0, .int .i64 0, .slice none 0 0], []⟩ 8 (by kernel_rfl) (by kernel_rfl) (by kernel_rfl) (by kernel_rfl)) ?_
  intro W base args ds gs before hval0 hW hcnd _
  have hval : ∀ (j : Nat) t v, Yba.f8.params[j]? = some t → args[j]? = some v → Value.okWide Yba.prog W .any base t v := hval0
  have hW' := hW
  obtain ⟨p, q, hA0, hV, rfl, hfz, hnd⟩ := hW
  have hA : DataW.TrodAll enc Yba.prog W 0 (fun _ => true) true Yba.f8.params.toList args.toList ds p := hA0
  rw [Yba.params8] at hA hval
  obtain ⟨v0, vs0, d0, ds0, p0, q0, hargs, rfl, rfl, h0, r0⟩ := trodAll_cons hA
  obtain ⟨v1, vs1, d1, ds1, p1, q1, rfl, rfl, rfl, h1, r1⟩ := trodAll_cons r0
  obtain ⟨v2, vs2, d2, ds2, p2, q2, rfl, rfl, rfl, h2, r2⟩ := trodAll_cons r1
  obtain ⟨rfl, rfl, rfl⟩ := trodAll_nil r2
  obtain rfl : args = #[v0, v1, v2] := by cases args; simp_all
  obtain ⟨rfl, rfl⟩ := trodVars_none hV
  obtain ⟨a0, len0, cap0, rfl⟩ := okWide_slice Yba.underlying61 (hval 0 61 v0 rfl rfl)
  have k0 := h0
  have lt0 : ∀ x ∈ p0, x.block < W.heap.size := by obtain ⟨m, hm⟩ := k0; exact DataW.trod_lt m _ _ _ hm
  have w0 : len0 = 0 ∨ ∃ b off kd T S, a0 = some ⟨b, off, none⟩ ∧ b < W.heap.size ∧ RawC W b off len0 kd T S := by
    obtain ⟨fuel, hf⟩ := h0
    exact open_rawC (by simpa [Value.cells] using hf)
  obtain ⟨a1, rfl, rfl, rfl, w1⟩ := open_int Yba.underlying3 (hval 1 3 v1 rfl rfl) h1
  obtain ⟨a2, len2, cap2, rfl⟩ := okWide_slice Yba.underlying43 (hval 2 43 v2 rfl rfl)
  have k2 := h2
  have lt2 : ∀ x ∈ p2, x.block < W.heap.size := by obtain ⟨m, hm⟩ := k2; exact DataW.trod_lt m _ _ _ hm
  obtain ⟨zs, w2⟩ : ∃ zs, IsOf W a2 len2 cap2 zs := by
    obtain ⟨fuel, hf⟩ := h2
    exact open_of (by simpa [Value.cells] using hf)
  clear hA0 hval0
  refine (walk a0 len0 cap0 a1 a2 len2 cap2 zs W w0 w2).mono fun e W' ⟨he, bel⟩ => ?_
  subst he
  exact ⟨_, rfl, _, _, _, [], _, [], hW', trodAll_mk1 (shut_bool Yba.underlying4 _), (trodAll_cons_mk (Below.trod laidOut (by kernel_rfl) (of_decide_eq_true (by kernel_rfl)) k0 bel lt0) (trodAll_cons_mk (shut_int Yba.underlying3 w1) (trodAll_cons_mk (Below.trod laidOut (by kernel_rfl) (of_decide_eq_true (by kernel_rfl)) k2 bel lt2) trodAll_mk0))), rfl, bel.frame _, fun h => by cases h⟩

theorem over : Rows.lawS0114CCachedRow.holds Yba.pinned (OpenSpec.ofChange Rows.lawS0114CCachedSpec) :=
  OpenClaim.holds_of_wide 8 Yba.f8 rfl rfl rfl rfl rfl rfl rfl ⟨rfl, rfl, rfl, rfl, rfl⟩ rfl rfl rfl rfl rfl (by kernel_rfl) Yba.func8 (by kernel_rfl)
    (of_decide_eq_true (by kernel_rfl)) (by unfold Func.isWrapper; first | (rw [if_pos (by decide +kernel)]; kernel_rfl) | (rw [if_neg (by decide +kernel)]; exact ⟨rfl, rfl⟩))
    (fun os started H enc _ => lifted os started H enc)

theorem proved : Rows.LawS0114CCachedSaid := over
#print axioms proved
end Go.Proofs.Ybulkbik.lawS0114CCached
