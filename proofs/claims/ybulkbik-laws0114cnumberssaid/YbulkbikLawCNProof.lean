import Derived.Test.YbulkbikLawCN
import Derived.ProofKit
import Derived.OpenShut
import Derived.ShutString
import Derived.ChangeOld
import Derived.Deep.Strs
namespace Go.Proofs.Ybulkbik.lawS0114CNumbers
open Go.ChangeShapes Go.WideShapes Go.ChangeAt Go.RowKit Go.Deep
set_option linter.unusedVariables false

theorem own : ownKnob Yba.prog.godebug = none := by kernel_rfl
theorem laidOut : laidOutB Yba.prog = true := by kernel_rfl
theorem cells97 : Yba.prog.cellsOf 97 = 3 := by kernel_rfl
theorem cells5 : Yba.prog.cellsOf 5 = 1 := by kernel_rfl
theorem cells21 : Yba.prog.cellsOf 21 = 1 := by kernel_rfl
theorem cells9 : Yba.prog.cellsOf 9 = 1 := by kernel_rfl

theorem add_of_cell {w : World} {x : Addr} {v : Value} (h : w.cell? x = some v) : x.spot = none := by
  unfold World.cell? at h
  split at h
  · cases hs : x.spot with
    | none => rfl
    | some s => simp [hs] at h
  · simp at h

set_option maxRecDepth 100000 in
/-- The slice of raw operations, opened. -/
theorem open_rawC {H : Type} {enc : TypeId × Value → H} {W : World} {spare : Nat → Bool} {held : Bool} {fuel : Nat} {a : Option Addr} {len cap : Nat} {x : DataW H × List MemPlace}
    (h : DataW.trod enc Yba.prog W 0 spare held fuel 61 [.slice a len cap] = some x) :
    len = 0 ∨ ∃ b off kd T S, a = some ⟨b, off, none⟩ ∧ b < W.heap.size ∧ RawC W b off len kd T S := by
  rcases open_slice Yba.underlying61 h with ⟨hcs, _⟩ | ⟨ad, len', cap', m, n, D, Pl, hcs, _, hl, hm, hmm, _, hx⟩
  · simp at hcs
    exact .inl hcs.2.1
  simp at hcs
  obtain ⟨rfl, rfl, rfl⟩ := hcs
  by_cases h0 : len = 0
  · exact .inl h0
  right
  have hlm : len ≤ m := by rw [hmm]; split <;> omega
  have each : ∀ i, i < len → ∃ q : Int × Int × ByteArray, W.cell? (ad.add (i * 3)) = some (.int .u8 q.1) ∧ W.cell? (ad.add (i * 3 + 1)) = some (.int .i32 q.2.1) ∧ W.cell? (ad.add (i * 3 + 2)) = some (.string q.2.2) ∧
      0 ≤ q.1 ∧ q.1 ≤ 255 ∧ q.2.2.size ≤ maxLen := by
    intro i hi
    obtain ⟨cs', h1, h2⟩ := hx i (by omega)
    rw [cells97] at h1
    obtain ⟨_, hlen, hcell⟩ := World.cells?_some h1
    obtain ⟨y0, y1, y2, n', _, _, g0, g1, g2⟩ := trod_struct3 Yba.underlying97 h2
    match cs', hlen with
    | [v0, v1, v2], _ =>
      simp [cells5, cells21, cells9] at g0 g1 g2
      obtain ⟨z0, e0, _, hw0⟩ := DataW.trod_int Yba.underlying5 g0
      obtain ⟨z1, e1, _, _⟩ := DataW.trod_int Yba.underlying21 g1
      obtain ⟨s2, e2, _, hs2⟩ := DataW.trod_string Yba.underlying9 g2
      simp at e0 e1 e2
      subst e0 e1 e2
      have c0 := hcell 0 (by omega)
      have c1 := hcell 1 (by omega)
      have c2 := hcell 2 (by omega)
      rw [add_add] at c0 c1 c2
      have hb : 0 ≤ z0 ∧ z0 ≤ 255 := by simpa [Lit.wf, IntKind.min, IntKind.max, IntKind.bits, IntKind.signed] using hw0
      exact ⟨(z0, z1, s2), by simpa using c0, by simpa using c1, by simpa using c2, hb.1, hb.2, hs2⟩
  have : Inhabited (Int × Int × ByteArray) := ⟨(0, 0, ⟨#[]⟩)⟩
  obtain ⟨q, hq⟩ := choose_lt each
  have hsp : ad.spot = none := by
    have := add_of_cell (hq 0 (by omega)).1
    simpa [Addr.add] using this
  obtain ⟨b, off, sp⟩ := ad
  simp at hsp
  subst hsp
  refine ⟨b, off, fun i => (q i).1, fun i => (q i).2.1, fun i => (q i).2.2, rfl, ?_, fun i hi => ?_⟩
  · have := World.block_lt_of_cell? W _ (hq 0 (by omega)).1
    simpa [Addr.add] using this
  · obtain ⟨c0, c1, c2, r⟩ := hq i hi
    rw [add_plain] at c0 c1 c2
    exact ⟨c0, by simpa [Nat.add_assoc] using c1, by simpa [Nat.add_assoc] using c2, r⟩

/-- THE WALK, for whatever slice comes in. -/
theorem walk (a : Option Addr) (len cap : Nat) (W : World) (h : len = 0 ∨ ∃ b off kd T S, a = some ⟨b, off, none⟩ ∧ b < W.heap.size ∧ RawC W b off len kd T S) :
    Calls Yba.prog 7 #[.slice a len cap] W fun e w' => e = .returned (.bool true) ∧ Below W.heap.size W w' := by
  by_cases hbig : 1024 < len
  · exact (numbers7_big a len cap W hbig).mono fun e w' ⟨he, hw⟩ => ⟨he, by rw [hw]; exact Below.refl _ _⟩
  rcases h with rfl | ⟨b, off, kd, T, S, rfl, hb, hraw⟩
  · exact numbers7 a 0 cap (fun _ => ⟨#[]⟩) (fun _ => 0) (fun _ => ⟨#[]⟩) W (by omega) (cbuild_zero a cap W _ _ _) (fun i hi => absurd hi (Nat.not_lt_zero _))
  · exact numbers7 _ len cap _ T S W (by omega) (cbuild_any b off len cap kd T S W (by omega) hb hraw) (fun i hi => (hraw i hi).2.2.2.2.2)

set_option maxRecDepth 100000 in
theorem lifted (os : Os) (started : os.Started) (H : Type) (enc : TypeId × Value → H) :
    ReturnsInHanded {} Yba.checked os 7 .any (Rows.lawS0114CNumbersSpec.pre6 enc Yba.prog Yba.f7 Rows.lawS0114CNumbersRow.domain false) (Rows.lawS0114CNumbersSpec.post enc Yba.prog Yba.f7 false true false false) := by
  refine returnsInHanded_of_change (C := Yba.checked) own started (by kernel_rfl) Yba.func7
    (ChangeSpec.witness6 (enc := enc) (C := Yba.checked) false ⟨#[], #[.slice none 0 0], []⟩ 8 (by kernel_rfl) (by kernel_rfl) (by kernel_rfl) (by kernel_rfl)) ?_
  intro W base args ds gs before hval0 hW hcnd _
  have hval : ∀ (j : Nat) t v, Yba.f7.params[j]? = some t → args[j]? = some v → Value.okWide Yba.prog W .any base t v := hval0
  have hW' := hW
  obtain ⟨p, q, hA0, hV, rfl, hfz, hnd⟩ := hW
  have hA : DataW.TrodAll enc Yba.prog W 0 (fun _ => true) true Yba.f7.params.toList args.toList ds p := hA0
  rw [Yba.params7] at hA hval
  obtain ⟨v0, vs0, d0, ds0, p0, q0, hargs, rfl, rfl, h0, r0⟩ := trodAll_cons hA
  obtain ⟨rfl, rfl, rfl⟩ := trodAll_nil r0
  obtain rfl : args = #[v0] := by cases args; simp_all
  obtain ⟨rfl, rfl⟩ := trodVars_none hV
  obtain ⟨a0, len0, cap0, rfl⟩ := okWide_slice Yba.underlying61 (hval 0 61 v0 rfl rfl)
  have k0 := h0
  have lt0 : ∀ x ∈ p0, x.block < W.heap.size := by obtain ⟨m, hm⟩ := k0; exact DataW.trod_lt m _ _ _ hm
  have w0 : len0 = 0 ∨ ∃ b off kd T S, a0 = some ⟨b, off, none⟩ ∧ b < W.heap.size ∧ RawC W b off len0 kd T S := by
    obtain ⟨fuel, hf⟩ := h0
    exact open_rawC (by simpa [Value.cells] using hf)
  clear hA0 hval0
  refine (walk a0 len0 cap0 W w0).mono fun e W' ⟨he, bel⟩ => ?_
  subst he
  exact ⟨_, rfl, _, _, _, [], _, [], hW', trodAll_mk1 (shut_bool Yba.underlying4 _), (trodAll_cons_mk (Below.trod laidOut (by kernel_rfl) (of_decide_eq_true (by kernel_rfl)) k0 bel lt0) trodAll_mk0), rfl, bel.frame _, fun h => by cases h⟩

theorem over : Rows.lawS0114CNumbersRow.holds Yba.pinned (OpenSpec.ofChange Rows.lawS0114CNumbersSpec) :=
  OpenClaim.holds_of_wide 7 Yba.f7 rfl rfl rfl rfl rfl rfl rfl ⟨rfl, rfl, rfl, rfl, rfl⟩ rfl rfl rfl rfl rfl (by kernel_rfl) Yba.func7 (by kernel_rfl)
    (of_decide_eq_true (by kernel_rfl)) (by unfold Func.isWrapper; first | (rw [if_pos (by decide +kernel)]; kernel_rfl) | (rw [if_neg (by decide +kernel)]; exact ⟨rfl, rfl⟩))
    (fun os started H enc _ => lifted os started H enc)

theorem proved : Rows.LawS0114CNumbersSaid := over
#print axioms proved
end Go.Proofs.Ybulkbik.lawS0114CNumbers
