import Derived.Test.YbulkbikRows
import Derived.Test.YbulkbikBuildA
import Derived.ProofKit
import Derived.OpenShut
import Derived.ShutString
import Derived.ChangeOld
import Derived.Deep.Strs
import Derived.SizedLaws
import Derived.Deep.Matrix
/-! Opening the raw lists of bytes. -/
namespace Go.Proofs.Ybulkbik
open Go.ChangeShapes Go.WideShapes Go.ChangeAt Go.RowKit Go.Deep
set_option linter.unusedVariables false

theorem ownA : ownKnob Yba.prog.godebug = none := by kernel_rfl
theorem laidOutA : laidOutB Yba.prog = true := by kernel_rfl
theorem cells5A : Yba.prog.cellsOf 5 = 1 := by kernel_rfl

theorem addA_of_cell {w : World} {x : Addr} {v : Value} (h : w.cell? x = some v) : x.spot = none := by
  unfold World.cell? at h
  split at h
  · cases hs : x.spot with
    | none => rfl
    | some s => simp [hs] at h
  · simp at h

theorem cells81 : Yba.prog.cellsOf 81 = 1 := by kernel_rfl
theorem bytes5 : Yba.prog.bytesOf 5 = 1 := by kernel_rfl

theorem weightsAllA_mem {H : Type} {P : Program} {e : TypeId} : ∀ {l : List (DataW H)} {d : DataW H}, d ∈ l → ∀ n ∈ d.weights P e, n ∈ DataW.weightsAll P e l
  | d' :: r, d, hd, n, hn => by
    simp only [DataW.weightsAll, List.mem_append]
    rcases List.mem_cons.1 hd with rfl | h
    · exact Or.inl hn
    · exact Or.inr (weightsAllA_mem h n hn)

/-- The form's own reach, of a row inside a slice of slices. -/
theorem sizedA_inner {H : Type} {P : Program} {ts : List TypeId} {ds : List (DataW H)} (h : (DataW.weightsEach P ts ds).all (· ≤ reachBytes) = true) {j : Nat} {t e q : TypeId} {elems spare e' sp' : List (DataW H)}
    (ht : ts[j]? = some t) (hd : ds[j]? = some (.slice elems spare)) (hu : P.underlying t = some (.slice e)) (hu2 : P.underlying e = some (.slice q)) (hx : DataW.slice e' sp' ∈ elems) : (e'.length + sp'.length) * P.bytesOf q ≤ reachBytes := by
  refine of_decide_eq_true (List.all_eq_true.1 h _ (DataW.weights_mem_each ht hd _ ?_))
  simp only [DataW.weights, hu, List.mem_cons, List.mem_append]
  exact Or.inr (Or.inl (weightsAllA_mem hx _ (by simp [DataW.weights, hu2])))

set_option maxRecDepth 100000 in
/-- The slice of lists of bytes, opened. -/
theorem open_rawA {H : Type} {enc : TypeId × Value → H} {W : World} {held : Bool} {fuel : Nat} {a : Option Addr} {len cap : Nat} {d : DataW H} {ps : List MemPlace} {ts : List TypeId} {ds : List (DataW H)} {j : Nat}
    (h : DataW.trod enc Yba.prog W 0 (fun _ => true) held fuel 22 [.slice a len cap] = some (d, ps))
    (hsz : (DataW.weightsEach Yba.prog ts ds).all (· ≤ reachBytes) = true) (ht : ts[j]? = some 22) (hd : ds[j]? = some d) :
    ∃ A L C Z, RawArg W a len A L C Z := by
  rcases open_int_rows Yba.underlying22 Yba.underlying81 Yba.underlying5 cells81 cells5A h with ⟨hcs, _⟩ | ⟨ad, len', cap', A, L, C, Z, hcs, _, hl, hm, hx, hrows⟩
  · simp at hcs
    exact ⟨fun _ => none, fun _ => 0, fun _ => 0, fun _ _ => 0, .inl hcs.2.1⟩
  simp at hcs
  obtain ⟨rfl, rfl, rfl⟩ := hcs
  simp only [Prod.mk.injEq] at hx
  obtain ⟨rfl, _⟩ := hx
  refine ⟨A, L, C, fun r c => ((Z r).getD c 0).toNat, ?_⟩
  by_cases h0 : len = 0
  · exact .inl h0
  right
  have hsp : ad.spot = none := by
    have := addA_of_cell (hrows 0 (by omega)).1
    simpa [Addr.add] using this
  obtain ⟨b, off, sp⟩ := ad
  simp at hsp
  subst hsp
  have hbyte : ∀ r, r < len → ∀ c, c < L r → 0 ≤ (Z r).getD c 0 ∧ (Z r).getD c 0 ≤ 255 := by
    intro r hr c hc
    obtain ⟨_, h2, _, h4, h5, _⟩ := hrows r (by omega)
    have hcz : c < (Z r).length := by omega
    have := h5 ((Z r)[c]) (List.getElem_mem hcz)
    rw [List.getD_eq_getElem?_getD, List.getElem?_eq_getElem hcz]
    simpa [Lit.wf, IntKind.min, IntKind.max, IntKind.bits, IntKind.signed] using this
  refine ⟨b, off, rfl, ?_, ?_, ?_, ?_, ?_⟩
  · have := World.block_lt_of_cell? W _ (hrows 0 (by omega)).1
    simpa [Addr.add] using this
  · intro r hr
    have := (hrows r (by omega)).1
    rwa [add_plain] at this
  · intro r hr c hc
    obtain ⟨_, h2, _, h4, h5, h6, h7⟩ := hrows r (by omega)
    cases hA : A r with
    | none => have := h6 hA; omega
    | some a' =>
      obtain ⟨_, h8⟩ := h7 a' hA
      have hcell := h8 c (by omega)
      have hs' : a'.spot = none := by
        have := addA_of_cell (h8 0 (by omega))
        simpa [Addr.add] using this
      obtain ⟨b', o', s'⟩ := a'
      simp at hs'
      subst hs'
      rw [add_plain] at hcell
      refine ⟨b', o', rfl, ?_, ?_⟩
      · exact World.block_lt_of_cell? W _ hcell
      · have := hbyte r hr c hc
        rw [hcell]
        simp only [Option.some.injEq, Value.int.injEq, true_and]
        omega
  · intro r hr c hc
    have := hbyte r hr c hc
    omega
  · intro r hr
    obtain ⟨_, h2, _, h4, h5, h6, h7⟩ := hrows r (by omega)
    cases hA : A r with
    | none => have := h6 hA; omega
    | some a' =>
      have hin := sizedA_inner hsz (e' := lits .u8 ((Z r).take (L r))) (sp' := lits .u8 ((Z r).drop (L r))) ht hd Yba.underlying22 Yba.underlying81 (List.mem_map.2 ⟨r, List.mem_range.2 hr, by simp [intRow, hA]⟩)
      simp only [lits, List.length_map, List.length_take, List.length_drop, bytes5, reachBytes] at hin
      omega

end Go.Proofs.Ybulkbik
