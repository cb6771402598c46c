import Derived.Test.YbulkbiyNode
import Derived.Deep.DeepCutAuto
import Derived.Deep.CutRange
/-! resum (12). -/
namespace Go.Proofs.Ybulkbiy
attribute [local go_sem ↓] Go.wp_at_zero Go.wp_at_succ
open Go.RowKit Go.Maps Go.Sort

theorem below_drewNY {B : Nat} {a w : World} (h : Below B a w) (n : Nat) : Below B a (w.drewN n) := h.trans ⟨rfl, rfl, rfl, Nat.le_refl _, fun _ _ => rfl⟩

/-- One node's row, the rest as in W. -/
structure RowB (w0 W : World) (b : Nat) (nu va ch : Value) (fi sz : Int) (p n : Option Nat) (wr : World) : Prop where
  row : wr.rowIs b 32 7 (ndCell nu va ch fi sz p n)
  rest : ∀ k, k < W.heap.size → k ≠ b → wr.heap[k]? = W.heap[k]?
  bel : Below w0.heap.size w0 wr
  size : W.heap.size ≤ wr.heap.size

theorem RowB.drew {w0 W : World} {b : Nat} {nu va ch : Value} {fi sz : Int} {p n : Option Nat} {wr : World} (h : RowB w0 W b nu va ch fi sz p n wr) (q : Nat) : RowB w0 W b nu va ch fi sz p n (wr.drewN q) :=
  ⟨h.row, h.rest, below_drewNY h.bel q, h.size⟩

theorem RowB.set {w0 W : World} {b : Nat} {nu va ch : Value} {fi sz : Int} {p n : Option Nat} {wr : World} (h : RowB w0 W b nu va ch fi sz p n wr) (hb : w0.heap.size ≤ b) {i : Nat} {u : Value} {nu' va' ch' : Value} {fi' sz' : Int} {p' n' : Option Nat}
    (hc : ∀ k, k < 7 → (if k = i then u else ndCell nu va ch fi sz p n k) = ndCell nu' va' ch' fi' sz' p' n' k) : RowB w0 W b nu' va' ch' fi' sz' p' n' (wr.setCell ⟨b, i, none⟩ u) :=
  ⟨(h.row.set i u).congr hc, fun k hk hne => (Below.heap_setCell _ _ _ _ hne).trans (h.rest k hk hne), h.bel.setCell hb _, by simpa using h.size⟩

theorem RowB.cell {w0 W : World} {b : Nat} {nu va ch : Value} {fi sz : Int} {p n : Option Nat} {wr : World} (h : RowB w0 W b nu va ch fi sz p n wr) {k : Addr} {u : Value} (hc : W.cell? k = some u) (hne : k.block ≠ b) : wr.cell? k = some u := by
  have hlt := World.block_lt_of_cell? W _ hc
  rw [← hc]
  unfold World.cell?
  rw [h.rest _ hlt hne]

theorem sumK_le (C : Nat → Nd) : ∀ (l : List Nat), (∀ k ∈ l, 0 ≤ (C k).sz ∧ (C k).sz ≤ 100000) → 0 ≤ (l.map fun k => (C k).sz).sum ∧ (l.map fun k => (C k).sz).sum ≤ 100000 * (l.length : Int)
  | [], _ => by simp
  | k :: l, h => by
    have ih := sumK_le C l (fun x hx => h x (by simp [hx]))
    have := h k (by simp)
    simp only [List.map_cons, List.sum_cons, List.length_cons]
    omega

def sumK (C : Nat → Nd) (ks : List Nat) : Int := (ks.map fun k => (C k).sz).sum

set_option maxHeartbeats 2000000 in
set_option maxRecDepth 100000 in
theorem resum12 (w0 : World) (D : List Nat) (C : Nat → Nd) (P N : Nat → Option Nat) (W : World) (b : Nat) (h : Rep w0 D C P N W) (hb : b ∈ D) (hk : ∀ k ∈ (C b).ks, k ∈ D ∧ k ≠ b ∧ 0 ≤ (C k).sz ∧ (C k).sz ≤ 100000) (k0 : Nat) (hk0 : (C b).ks[0]? = some k0) (hlen : (C b).ks.length ≤ 1000) :
    Calls Yba.prog 12 #[.pointer (some ⟨b, 0, none⟩)] W fun e w' => e = .returned (.tuple #[]) ∧ RowB w0 W b (C b).nu (C b).va (C b).ch (C k0).fi (sumK C (C b).ks) (P b) (N b) w' := by
  have nb := h.at_ b hb
  have hnew := h.new b hb
  have R0 : RowB w0 W b (C b).nu (C b).va (C b).ch (C b).fi (C b).sz (P b) (N b) W := ⟨nb.row, fun _ _ _ => rfl, h.bel, Nat.le_refl _⟩
  obtain ⟨g, cap, hch, hkc⟩ : ∃ g cap, (C b).ch = .slice (some ⟨g, 0, none⟩) (C b).ks.length cap ∧ ∀ (j k : Nat), (C b).ks[j]? = some k → W.cell? ⟨g, j, none⟩ = some (.pointer (some ⟨k, 0, none⟩)) := by
    rcases nb.kids.2 with ⟨_, e0⟩ | ⟨g, cap, cur, e, _⟩
    · have := (List.getElem?_eq_some_iff.1 hk0).1
      omega
    · refine ⟨g, cap, e, fun j k hj => ?_⟩
      have := nb.kids.cells (g := g) (by rw [e]; rfl) j (ptrV (some k)) (by rw [List.getElem?_map, hj]; rfl)
      rw [Addr.add_lit, Nat.zero_add] at this
      exact this
  have hgb : g ≠ b := by
    have := h.sep b hb
    simp only [blks, hch, Value.ownBlock, List.nodup_cons, List.mem_append, Option.mem_toList] at this
    intro e
    exact this.1 (.inr (by simp [e]))
  have nk0 := h.at_ k0 (hk k0 (List.mem_of_getElem? hk0)).1
  have hk0b := (hk k0 (List.mem_of_getElem? hk0)).2.1
  have c2 : W.cell? ⟨b, 2, none⟩ = some (.slice (some ⟨g, 0, none⟩) (C b).ks.length cap) := by rw [nb.row.cell (i := 2) (by omega), ← hch]; rfl
  have c3 : W.cell? ⟨b, 3, none⟩ = some (.int .u64 (C b).fi) := nb.row.cell (i := 3) (by omega)
  have c4 : W.cell? ⟨b, 4, none⟩ = some (.int .i64 (C b).sz) := nb.row.cell (i := 4) (by omega)
  have f3 := nb.row.frozen 3
  have f4 := nb.row.frozen 4
  have g0 := hkc 0 k0 hk0
  have d3 : W.cell? ⟨k0, 3, none⟩ = some (.int .u64 (C k0).fi) := nk0.row.cell (i := 3) (by omega)
  have hbl := nb.row.lt
  have hpos : 0 < (C b).ks.length := (List.getElem?_eq_some_iff.1 hk0).1
  have HK : Hid (∀ k ∈ (C b).ks, k ∈ D ∧ k ≠ b ∧ 0 ≤ (C k).sz ∧ (C k).sz ≤ 100000) := hk
  have HKC : Hid (∀ (j k : Nat), (C b).ks[j]? = some k → W.cell? ⟨g, j, none⟩ = some (.pointer (some ⟨k, 0, none⟩))) := hkc
  have HCH : Hid ((C b).ch = .slice (some ⟨g, 0, none⟩) (C b).ks.length cap) := hch
  clear hk hkc hk0 hch nk0 nb
  generalize (C k0).fi = fi0 at d3 ⊢
  obtain ⟨nn, hnn⟩ : ∃ nn, nn = (C b).ks.length := ⟨_, rfl⟩
  rw [← hnn] at c2 hlen hpos
  have HN : Hid (nn = (C b).ks.length) := hnn
  clear hnn
  go_enter Yba.func12, Yba.ntmps12
  go_wp2_with fail
  have R2 : RowB w0 W b (C b).nu (C b).va (C b).ch fi0 (sumK C ((C b).ks.take 0)) (P b) (N b) ((W.setCell ⟨b, 3, none⟩ (.int .u64 fi0)).setCell ⟨b, 4, none⟩ (.int .i64 0)) := by
    refine (R0.set hnew (i := 3) (u := .int .u64 fi0) (nu' := (C b).nu) (va' := (C b).va) (ch' := (C b).ch) (fi' := fi0) (sz' := (C b).sz) (p' := P b) (n' := N b) (fun k hk => ?_)).set hnew (fun k hk => ?_)
    · match k, hk with
      | 0, _ => rfl
      | 1, _ => rfl
      | 2, _ => rfl
      | 3, _ => rfl
      | 4, _ => rfl
      | 5, _ => rfl
      | 6, _ => rfl
    · match k, hk with
      | 0, _ => rfl
      | 1, _ => rfl
      | 2, _ => rfl
      | 3, _ => rfl
      | 4, _ => rfl
      | 5, _ => rfl
      | 6, _ => rfl
  go_loopw [24] (fun vj wr => ∃ j : Nat, j ≤ nn ∧ vj = .int .i64 (j : Nat) ∧ RowB w0 W b (C b).nu (C b).va (C b).ch fi0 (sumK C ((C b).ks.take j)) (P b) (N b) wr) (fun vj _ => nn - (intOf vj).toNat)
  case atStart => exact ⟨0, Nat.zero_le _, rfl, R2⟩
  case round =>
    obtain ⟨j, hj, rfl, R⟩ := hrel
    by_cases hlj : j < nn
    · have hj' : j < (C b).ks.length := by rw [← HN.out]; exact hlj
      obtain ⟨kd, hkd⟩ : ∃ kd, (C b).ks[j]? = some kd := ⟨_, List.getElem?_eq_getElem hj'⟩
      obtain ⟨kD, kb, ks0, ks1⟩ := HK.out kd (List.mem_of_getElem? hkd)
      have x1 := R.cell (HKC.out j kd hkd) hgb
      have x2 := R.cell ((h.at_ kd kD).row.cell (i := 4) (by omega)) kb
      rw [show ndCell (C kd).nu (C kd).va (C kd).ch (C kd).fi (C kd).sz (P kd) (N kd) 4 = .int .i64 (C kd).sz from rfl] at x2
      have x3 := R.row.cell (i := 4) (by omega)
      rw [show ndCell (C b).nu (C b).va (C b).ch fi0 (sumK C ((C b).ks.take j)) (P b) (N b) 4 = .int .i64 (sumK C ((C b).ks.take j)) from rfl] at x3
      have x4 := R.row.frozen 4
      have x5 := R.row.lt
      have hsum := sumK_le C ((C b).ks.take j) (fun k hk => ⟨(HK.out k (List.mem_of_mem_take hk)).2.2.1, (HK.out k (List.mem_of_mem_take hk)).2.2.2⟩)
      have hl2 : ((C b).ks.take j).length ≤ 1000 := by simp; omega
      have hnext : sumK C ((C b).ks.take (j + 1)) = sumK C ((C b).ks.take j) + (C kd).sz := by
        unfold sumK
        rw [List.take_add_one, hkd]
        simp
      have hs0 : 0 ≤ sumK C ((C b).ks.take j) ∧ sumK C ((C b).ks.take j) ≤ 100000000 := ⟨hsum.1, by have := hsum.2; unfold sumK; omega⟩
      obtain ⟨S, hS⟩ : ∃ S, S = sumK C ((C b).ks.take j) := ⟨_, rfl⟩
      rw [← hS] at x3 hs0 hnext R
      have HNX : Hid _ := hnext
      clear hS hsum hnext
      generalize (C kd).sz = kz at x2 ks0 ks1 HNX
      go_wp2_with fail
      go_region
      go_wp2_with fail
      go_roundw
      case rel =>
        refine ⟨j + 1, by omega, by go_num, ?_⟩
        rw [HNX.out]
        exact (R.drew 1).set hnew (fun k hk => by
          match k, hk with
          | 0, _ => rfl
          | 1, _ => rfl
          | 2, _ => rfl
          | 3, _ => rfl
          | 4, _ => rfl
          | 5, _ => rfl
          | 6, _ => rfl)
      case measure => simp [intOf]; omega
    · have hjn : (C b).ks.take j = (C b).ks := List.take_of_length_le (by rw [← HN.out]; omega)
      rw [hjn] at R
      go_wp2_with fail
      go_end0
      exact ⟨rfl, R⟩

end Go.Proofs.Ybulkbiy
