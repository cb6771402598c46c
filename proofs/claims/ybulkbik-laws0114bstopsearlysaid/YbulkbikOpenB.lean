import Derived.Test.YbulkbikRows
import Derived.Test.YbulkbikLawBM
import Derived.ProofKit
import Derived.OpenShut
import Derived.ShutString
import Derived.ChangeOld
import Derived.Deep.Strs
namespace Go.Proofs.Ybulkbik
open Go.ChangeShapes Go.WideShapes Go.ChangeAt Go.RowKit Go.Deep
set_option linter.unusedVariables false

theorem ownB : ownKnob Yba.prog.godebug = none := by kernel_rfl
theorem laidOutBB : laidOutB Yba.prog = true := by kernel_rfl
theorem cells87 : Yba.prog.cellsOf 87 = 3 := by kernel_rfl
theorem cells5 : Yba.prog.cellsOf 5 = 1 := by kernel_rfl
theorem cells21 : Yba.prog.cellsOf 21 = 1 := by kernel_rfl

theorem add_of_cell {w : World} {x : Addr} {v : Value} (h : w.cell? x = some v) : x.spot = none := by
  unfold World.cell? at h
  split at h
  · cases hs : x.spot with
    | none => rfl
    | some s => simp [hs] at h
  · simp at h

set_option maxRecDepth 100000 in
/-- The slice of raw operations, opened. -/
theorem open_rawB {H : Type} {enc : TypeId × Value → H} {W : World} {spare : Nat → Bool} {held : Bool} {fuel : Nat} {a : Option Addr} {len cap : Nat} {x : DataW H × List MemPlace}
    (h : DataW.trod enc Yba.prog W 0 spare held fuel 49 [.slice a len cap] = some x) :
    len = 0 ∨ ∃ b off kd T it, a = some ⟨b, off, none⟩ ∧ b < W.heap.size ∧ RawB W b off len kd T it := by
  rcases open_slice Yba.underlying49 h with ⟨hcs, _⟩ | ⟨ad, len', cap', m, n, D, Pl, hcs, _, hl, hm, hmm, _, hx⟩
  · simp at hcs
    exact .inl hcs.2.1
  simp at hcs
  obtain ⟨rfl, rfl, rfl⟩ := hcs
  by_cases h0 : len = 0
  · exact .inl h0
  right
  have hlm : len ≤ m := by rw [hmm]; split <;> omega
  have each : ∀ i, i < len → ∃ q : Int × Int × Int, W.cell? (ad.add (i * 3)) = some (.int .u8 q.1) ∧ W.cell? (ad.add (i * 3 + 1)) = some (.int .i32 q.2.1) ∧ W.cell? (ad.add (i * 3 + 2)) = some (.int .u8 q.2.2) ∧
      0 ≤ q.1 ∧ q.1 ≤ 255 ∧ 0 ≤ q.2.2 ∧ q.2.2 ≤ 255 ∧ -2147483648 ≤ q.2.1 ∧ q.2.1 ≤ 2147483647 := by
    intro i hi
    obtain ⟨cs', h1, h2⟩ := hx i (by omega)
    rw [cells87] at h1
    obtain ⟨_, hlen, hcell⟩ := World.cells?_some h1
    obtain ⟨y0, y1, y2, n', _, _, g0, g1, g2⟩ := trod_struct3 Yba.underlying87 h2
    match cs', hlen with
    | [v0, v1, v2], _ =>
      simp [cells5, cells21] at g0 g1 g2
      obtain ⟨z0, e0, _, hw0⟩ := DataW.trod_int Yba.underlying5 g0
      obtain ⟨z1, e1, _, hw1⟩ := DataW.trod_int Yba.underlying21 g1
      obtain ⟨z2, e2, _, hw2⟩ := DataW.trod_int Yba.underlying5 g2
      simp at e0 e1 e2
      subst e0 e1 e2
      have c0 := hcell 0 (by omega)
      have c1 := hcell 1 (by omega)
      have c2 := hcell 2 (by omega)
      rw [add_add] at c0 c1 c2
      have hb : 0 ≤ z0 ∧ z0 ≤ 255 := by simpa [Lit.wf, IntKind.min, IntKind.max, IntKind.bits, IntKind.signed] using hw0
      have hb2 : 0 ≤ z2 ∧ z2 ≤ 255 := by simpa [Lit.wf, IntKind.min, IntKind.max, IntKind.bits, IntKind.signed] using hw2
      have hb1 : -2147483648 ≤ z1 ∧ z1 ≤ 2147483647 := by simpa [Lit.wf, IntKind.min, IntKind.max, IntKind.bits, IntKind.signed] using hw1
      exact ⟨(z0, z1, z2), by simpa using c0, by simpa using c1, by simpa using c2, hb.1, hb.2, hb2.1, hb2.2, hb1.1, hb1.2⟩
  have : Inhabited (Int × Int × Int) := ⟨(0, 0, 0)⟩
  obtain ⟨q, hq⟩ := choose_lt each
  have hsp : ad.spot = none := by
    have := add_of_cell (hq 0 (by omega)).1
    simpa [Addr.add] using this
  obtain ⟨b, off, sp⟩ := ad
  simp at hsp
  subst hsp
  refine ⟨b, off, fun i => (q i).1, fun i => (q i).2.1, fun i => (q i).2.2, rfl, ?_, fun i hi => ?_⟩
  · have := World.block_lt_of_cell? W _ (hq 0 (by omega)).1
    simpa [Addr.add] using this
  · obtain ⟨c0, c1, c2, r⟩ := hq i hi
    rw [add_plain] at c0 c1 c2
    exact ⟨c0, by simpa [Nat.add_assoc] using c1, by simpa [Nat.add_assoc] using c2, r⟩

end Go.Proofs.Ybulkbik
