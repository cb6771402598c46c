import Derived.Test.YbulkbiySet2
import Derived.Test.YbulkbiyShelfS
/-! place (16, 23), childFor (17, 24): where a number goes. -/
namespace Go.Proofs.Ybulkbiy
attribute [local go_sem ↓] Go.wp_at_zero Go.wp_at_succ
open Go.RowKit Go.Maps Go.Sort Go.Shelf

set_option maxHeartbeats 1000000 in
theorem clo23 (p q b g c n i : Nat) (x k : Int) (W : World) (hi : i < n) (h1 : W.cell? ⟨p, 0, none⟩ = some (.pointer (some ⟨b, 0, none⟩))) (h2 : W.cell? ⟨q, 0, none⟩ = some (.int .u64 k))
    (h3 : W.cell? ⟨b, 0, none⟩ = some (.slice (some ⟨g, 0, none⟩) n c)) (h4 : W.cell? ⟨g, i, none⟩ = some (.int .u64 x)) :
    Calls Yba.prog 23 (#[.int .i64 (i : Nat)] ++ #[.pointer (some ⟨p, 0, none⟩), .pointer (some ⟨q, 0, none⟩)]) W fun e w' => e = .returned (.bool (decide (k ≤ x))) ∧ ∃ q, w' = W.drewN q := by
  have z1 : (0 : Int) ≤ (i : Int) := by omega
  have z2 : (i : Int) < (n : Int) := by omega
  go_enter Yba.func23, Yba.ntmps23
  go_wp2_with fail
  go_quiet (fail)
  go_wp2
  go_ret
  exact ⟨rfl, _, rfl⟩

set_option maxHeartbeats 1000000 in
theorem clo24 (p q b g c n i d : Nat) (x k : Int) (W : World) (hi : i < n) (h1 : W.cell? ⟨p, 0, none⟩ = some (.pointer (some ⟨b, 0, none⟩))) (h2 : W.cell? ⟨q, 0, none⟩ = some (.int .u64 k))
    (h3 : W.cell? ⟨b, 2, none⟩ = some (.slice (some ⟨g, 0, none⟩) n c)) (h4 : W.cell? ⟨g, i, none⟩ = some (.pointer (some ⟨d, 0, none⟩))) (h5 : W.cell? ⟨d, 3, none⟩ = some (.int .u64 x)) :
    Calls Yba.prog 24 (#[.int .i64 (i : Nat)] ++ #[.pointer (some ⟨p, 0, none⟩), .pointer (some ⟨q, 0, none⟩)]) W fun e w' => e = .returned (.bool (decide (k < x))) ∧ ∃ q, w' = W.drewN q := by
  have z1 : (0 : Int) ≤ (i : Int) := by omega
  have z2 : (i : Int) < (n : Int) := by omega
  go_enter Yba.func24, Yba.ntmps24
  go_wp2_with fail
  go_quiet (fail)
  go_wp2
  go_ret
  exact ⟨rfl, _, rfl⟩

theorem cellG {w : World} {p : Addr} {v : Value} (h : w.cell? p = some v) (m : Nat) (os : Array Obj) : (grow (w.drewN m) os).cell? p = some v := by
  rw [cell?_grow _ _ _ (World.block_lt_of_cell? (w.drewN m) _ h)]
  exact h

set_option maxHeartbeats 1000000 in
theorem place16 (b : Nat) (a : Option Addr) (n c : Nat) (F : Nat → Int) (k : Int) (w : World) (hb : b < w.heap.size) (hcell : w.cell? ⟨b, 0, none⟩ = some (.slice a n c)) (hn : n ≤ 1000)
    (hF : ∀ i, i < n → ∃ g, a = some ⟨g, 0, none⟩ ∧ w.cell? ⟨g, i, none⟩ = some (.int .u64 (F i))) (hs : ∀ i j, i ≤ j → j < n → F i ≤ F j) :
    Calls Yba.prog 16 #[.pointer (some ⟨b, 0, none⟩), .int .u64 k] w fun e w' => e = .returned (.int .i64 ((List.range n).countP (fun i => !decide (k ≤ F i)) : Nat)) ∧ Below w.heap.size w w' := by
  obtain ⟨W0, hW0⟩ : ∃ W0, W0 = (w.alloc (.cells #[.pointer (some ⟨b, 0, none⟩)] 24)).alloc (.cells #[.int .u64 k] 23) := ⟨_, rfl⟩
  have hB0 : Below w.heap.size w W0 := by rw [hW0]; exact ((Below.refl _ w).alloc (Nat.le_refl _) _).alloc (by simp) _
  have hsize : W0.heap.size = w.heap.size + 1 + 1 := by rw [hW0]; simp
  have ca : W0.cell? ⟨w.heap.size, 0, none⟩ = some (.pointer (some ⟨b, 0, none⟩)) := by rw [hW0, World.cell?_alloc_lt _ _ _ (by simp)]; exact World.cell?_alloc_at (w := w) _ _ _ _ rfl
  have cx : W0.cell? ⟨w.heap.size + 1, 0, none⟩ = some (.int .u64 k) := by rw [hW0]; exact World.cell?_alloc_at (w := w.alloc _) _ _ _ _ (by simp)
  have cb := (hB0.cell (p := ⟨b, 0, none⟩) hb).trans hcell
  have eg : ∀ args w, (callFunc 23 args).run Yba.prog w = .ok (.enter 23 args) w := enters_of Yba.func23 (by kernel_rfl) rfl
  have hS := Any.sort_Search Yba.searchL 23 #[.pointer (some ⟨w.heap.size, 0, none⟩), .pointer (some ⟨w.heap.size + 1, 0, none⟩)] n (fun i => decide (k ≤ F i)) W0 eg (by omega)
    (fun m os i hi => by
      obtain ⟨g, rfl, hg⟩ := hF i hi
      have hg0 := (hB0.cell (p := ⟨g, i, none⟩) (World.block_lt_of_cell? w _ hg)).trans hg
      refine (clo23 w.heap.size (w.heap.size + 1) b g c n i (F i) k _ hi (cellG ca m os) (cellG cx m os) (cellG cb m os) (cellG hg0 m os)).mono ?_
      rintro e w' ⟨he, q, hq⟩
      exact ⟨he, q, #[], by rw [hq, grow_empty]⟩) (fun x y hab hy h => by have := hs x y hab hy; simp at h ⊢; omega)
  change Calls Yba.prog 22 _ _ _ at hS
  clear hF hs
  generalize (List.range n).countP (fun i => !decide (k ≤ F i)) = r at hS ⊢
  go_enter Yba.func16, Yba.ntmps16
  go_upto_region 1 with fail
  rw [← hW0]
  have bl0 : b < W0.heap.size := by omega
  clear hW0
  go_wp2_with (go_at_call 22; refine hS.mono ?_; rintro e w' ⟨rfl, q, os, rfl⟩)
  go_ret
  exact ⟨rfl, hB0.trans (below_grown_sl w.heap.size W0 q os (by omega))⟩

set_option maxHeartbeats 1000000 in
theorem child17 (b g n c : Nat) (F : Nat → Int) (kid : Nat → Nat) (k : Int) (w : World) (hb : b < w.heap.size) (hcell : w.cell? ⟨b, 2, none⟩ = some (.slice (some ⟨g, 0, none⟩) n c)) (hn : n ≤ 1000)
    (hF : ∀ i, i < n → w.cell? ⟨g, i, none⟩ = some (.pointer (some ⟨kid i, 0, none⟩)) ∧ w.cell? ⟨kid i, 3, none⟩ = some (.int .u64 (F i))) (hs : ∀ i j, i ≤ j → j < n → F i ≤ F j) :
    Calls Yba.prog 17 #[.pointer (some ⟨b, 0, none⟩), .int .u64 k] w fun e w' => e = .returned (.int .i64 ((List.range n).countP (fun i => !decide (k < F i)) - 1 : Nat)) ∧ Below w.heap.size w w' := by
  obtain ⟨W0, hW0⟩ : ∃ W0, W0 = (w.alloc (.cells #[.pointer (some ⟨b, 0, none⟩)] 24)).alloc (.cells #[.int .u64 k] 23) := ⟨_, rfl⟩
  have hB0 : Below w.heap.size w W0 := by rw [hW0]; exact ((Below.refl _ w).alloc (Nat.le_refl _) _).alloc (by simp) _
  have hsize : W0.heap.size = w.heap.size + 1 + 1 := by rw [hW0]; simp
  have ca : W0.cell? ⟨w.heap.size, 0, none⟩ = some (.pointer (some ⟨b, 0, none⟩)) := by rw [hW0, World.cell?_alloc_lt _ _ _ (by simp)]; exact World.cell?_alloc_at (w := w) _ _ _ _ rfl
  have cx : W0.cell? ⟨w.heap.size + 1, 0, none⟩ = some (.int .u64 k) := by rw [hW0]; exact World.cell?_alloc_at (w := w.alloc _) _ _ _ _ (by simp)
  have cb := (hB0.cell (p := ⟨b, 2, none⟩) hb).trans hcell
  have eg : ∀ args w, (callFunc 24 args).run Yba.prog w = .ok (.enter 24 args) w := enters_of Yba.func24 (by kernel_rfl) rfl
  have hS := Any.sort_Search Yba.searchL 24 #[.pointer (some ⟨w.heap.size, 0, none⟩), .pointer (some ⟨w.heap.size + 1, 0, none⟩)] n (fun i => decide (k < F i)) W0 eg (by omega)
    (fun m os i hi => by
      obtain ⟨hg, hd⟩ := hF i hi
      have hg0 := (hB0.cell (p := ⟨g, i, none⟩) (World.block_lt_of_cell? w _ hg)).trans hg
      have hd0 := (hB0.cell (p := ⟨kid i, 3, none⟩) (World.block_lt_of_cell? w _ hd)).trans hd
      refine (clo24 w.heap.size (w.heap.size + 1) b g c n i (kid i) (F i) k _ hi (cellG ca m os) (cellG cx m os) (cellG cb m os) (cellG hg0 m os) (cellG hd0 m os)).mono ?_
      rintro e w' ⟨he, q, hq⟩
      exact ⟨he, q, #[], by rw [hq, grow_empty]⟩) (fun x y hab hy h => by have := hs x y hab hy; simp at h ⊢; omega)
  change Calls Yba.prog 22 _ _ _ at hS
  clear hF hs
  have hr : (List.range n).countP (fun i => !decide (k < F i)) ≤ 1000 := Nat.le_trans (List.countP_le_length) (by simpa using hn)
  generalize (List.range n).countP (fun i => !decide (k < F i)) = r at hS hr ⊢
  go_enter Yba.func17, Yba.ntmps17
  go_upto_region 1 with fail
  rw [← hW0]
  have bl0 : b < W0.heap.size := by omega
  clear hW0
  go_wp2_with (go_at_call 22; refine hS.mono ?_; rintro e w' ⟨rfl, q, os, rfl⟩)
  go_ret
  refine ⟨?_, hB0.trans (below_grown_sl w.heap.size W0 q os (by omega))⟩
  show Ending.returned (.int .i64 (max ((r : Int) - 1) 0)) = _
  congr 2
  omega

end Go.Proofs.Ybulkbiy
