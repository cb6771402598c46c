import Derived.Test.YbulkbiyLeaf
/-! insert (11) at a leaf: a number that is there already. -/
namespace Go.Proofs.Ybulkbiy
attribute [local go_sem ↓] Go.wp_at_zero Go.wp_at_succ
open Go.RowKit Go.Maps Go.Sort

theorem q30 (w : World) (a : Option Addr) (n c n' c' : Nat) : (binOp .eql 30 (.slice a n c) (.slice none n' c')).run Yba.prog w = .ok (.bool a.isNone) w := Lib.run_eql_slice_nil w _ _ a n c n' c' Yba.underlying30

set_option maxHeartbeats 4000000 in
set_option maxRecDepth 100000 in
theorem ins_old {base : Nat} {W : World} {b : Nat} {r : Nd} {p n : Option Nat} (h : NodeAt base W b r p n) (hch : r.ch = .slice none 0 0) (hs : r.xs.Pairwise (· < ·)) (hl : r.xs.length ≤ 1000) (k v : Int) (wd : Int) (hk : k ∈ r.xs) :
    Calls Yba.prog 11 #[.pointer (some ⟨b, 0, none⟩), .int .u64 k, .int .u64 v, .int .i64 wd] W fun e w' => e = .returned (.tuple #[.bool false, .pointer none]) ∧ Below W.heap.size W w' := by
  have c16 := placeL h hs hl k
  have hat := (mem_at hs).1 hk
  have hlt := (List.getElem?_eq_some_iff.1 hat).1
  obtain ⟨g, c, hnu, hc⟩ := h.num hlt
  have hx : r.xs[posOf r.xs k]! = k := by
    rw [getElem!_pos r.xs _ hlt]
    exact (List.getElem?_eq_some_iff.1 hat).2
  rw [hx] at hc
  have c0 : W.cell? ⟨b, 0, none⟩ = some (.slice (some ⟨g, 0, none⟩) r.xs.length c) := by rw [h.row.cell (i := 0) (by omega), ← hnu]; rfl
  have c2 : W.cell? ⟨b, 2, none⟩ = some (.slice none 0 0) := by rw [h.row.cell (i := 2) (by omega), ← hch]; rfl
  have bl := h.row.lt
  have gl := World.block_lt_of_cell? W _ hc
  simp only at gl
  clear hat hnu hx hk h hs hch
  generalize posOf r.xs k = i at c16 hlt hc
  generalize r.xs.length = m at c16 hlt c0 hl
  have q := q30
  go_enter Yba.func11, Yba.ntmps11
  go_wp2_with (go_at_call 16; refine c16.mono ?_; rintro e w1 ⟨rfl, hb1⟩; have d0 := (hb1.cell (p := ⟨b, 0, none⟩) bl).trans c0; have d1 := (hb1.cell (p := ⟨g, i, none⟩) gl).trans hc; have bl1 := Nat.lt_of_lt_of_le bl hb1.size)
  go_ret2
  exact ⟨rfl, hb1⟩

end Go.Proofs.Ybulkbiy
