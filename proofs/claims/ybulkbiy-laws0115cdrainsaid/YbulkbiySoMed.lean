import Derived.Test.YbulkbiySoKit
import Derived.Sort.LotD4
import Derived.Sort.AtCall
namespace Go.Proofs.Ybulkbiy
open Go.RowKit Go.Sort

/-- A world of the sort's that holds, in a block of its own, the counter of choosePivot's. -/
def Cn (w0 : World) (blk off : Nat) (d : Array Int) (c s : Nat) (W : World) : Prop :=
  SI w0 blk off d W ∧ W.cell? ⟨c, 0, none⟩ = some (.int .i64 s) ∧ W.frozen? ⟨c, 0, none⟩ = false ∧ w0.heap.size ≤ c

theorem Cn.drawn {w0 W : World} {blk off c s : Nat} {d : Array Int} (h : Cn w0 blk off d c s W) (q : Nat) : Cn w0 blk off d c s (W.drewN q) := ⟨h.1.drawn q, h.2.1, h.2.2.1, h.2.2.2⟩
theorem Cn.bump {w0 W : World} {blk off c s : Nat} {d : Array Int} (h : Cn w0 blk off d c s W) (t : Nat) : Cn w0 blk off d c t (W.setCell ⟨c, 0, none⟩ (.int .i64 t)) :=
  ⟨h.1.side c 0 _ h.2.2.2, World.cell?_setCell_same _ _ _ h.2.1, by rw [World.frozen?_setCell]; exact h.2.2.1, h.2.2.2⟩
theorem Cn.start {w0 W : World} {blk off : Nat} {d : Array Int} (S : SI w0 blk off d W) (T : TypeId) : Cn w0 blk off d W.heap.size 0 (W.alloc (.cells #[.int .i64 0] T)) :=
  ⟨S.laid _, by simp, by simp, S.le⟩

set_option maxHeartbeats 4000000 in
set_option maxRecDepth 100000 in
/-- order2Ordered. -/
theorem ord86 {w0 : World} {blk off n : Nat} (B : Bed w0 blk off n) (cap a b c s : Nat) (d : Array Int) (w : World) (hs : d.size = n) (C : Cn w0 blk off d c s w) (ha : a < n) (hb : b < n) (hsm : s < 1000) :
    Calls Yba.prog 42 #[.slice (some ⟨blk, off, none⟩) n cap, .int .i64 a, .int .i64 b, .pointer (some ⟨c, 0, none⟩)] w fun e w' =>
      e = .returned (.tuple #[.int .i64 ((order2 ltInt d a b s).1 : Nat), .int .i64 ((order2 ltInt d a b s).2.1 : Nat)]) ∧ Cn w0 blk off d c (order2 ltInt d a b s).2.2 w' := by
  have few := B.few
  obtain ⟨G, HG, hcw, hfw⟩ := B.fam C.1 hs
  have hcs := C.2.1
  have hcf := C.2.2.1
  have HC : Hid (Cn w0 blk off d c s w) := C
  clear B C
  go_enter Yba.func42, Yba.ntmps42
  go_wp2_with fail
  go_big_quiet (first | (go_at_call 31; refine Calls.quiet_of_same (less78 _ _ _)))
  cases hl : ltInt (G b) (G a) with
  | true =>
    have e : order2 ltInt d a b s = (b, a, s + 1) := by unfold order2; rw [← HG.out, ← HG.out, hl]; rfl
    have HE : Hid _ := e
    clear e
    go_wp2_with fail
    go_ret2
    rw [HE.out]
    exact ⟨rfl, Cn.bump (Cn.drawn HC.out _) (s + 1)⟩
  | false =>
    have e : order2 ltInt d a b s = (a, b, s) := by unfold order2; rw [← HG.out, ← HG.out, hl]; rfl
    have HE : Hid _ := e
    clear e
    go_wp2_with fail
    go_ret2
    rw [HE.out]
    exact ⟨rfl, Cn.drawn HC.out _⟩

theorem order2_lt {n : Nat} (d : Array Int) (a b s : Nat) (ha : a < n) (hb : b < n) : (order2 ltInt d a b s).1 < n ∧ (order2 ltInt d a b s).2.1 < n := by
  unfold order2; split <;> exact ⟨by assumption, by assumption⟩

set_option maxHeartbeats 4000000 in
set_option maxRecDepth 100000 in
/-- medianOrdered. -/
theorem med84 {w0 : World} {blk off n : Nat} (B : Bed w0 blk off n) (cap a b k c s : Nat) (d : Array Int) (w : World) (hs : d.size = n) (C : Cn w0 blk off d c s w) (ha : a < n) (hb : b < n) (hk : k < n) (hsm : s < 900) :
    Calls Yba.prog 40 #[.slice (some ⟨blk, off, none⟩) n cap, .int .i64 a, .int .i64 b, .int .i64 k, .pointer (some ⟨c, 0, none⟩)] w fun e w' =>
      e = .returned (.int .i64 ((median ltInt d a b k s).1 : Nat)) ∧ Cn w0 blk off d c (median ltInt d a b k s).2 w' := by
  obtain ⟨r1, h1⟩ : ∃ r, r = order2 ltInt d a b s := ⟨_, rfl⟩
  obtain ⟨r2, h2⟩ : ∃ r, r = order2 ltInt d r1.2.1 k r1.2.2 := ⟨_, rfl⟩
  obtain ⟨r3, h3⟩ : ∃ r, r = order2 ltInt d r1.1 r2.1 r2.2.2 := ⟨_, rfl⟩
  have l1 := order2_lt (n := n) d a b s ha hb
  have k1 := order2_count ltInt d a b s
  rw [← h1] at l1 k1
  have l2 := order2_lt (n := n) d r1.2.1 k r1.2.2 l1.2 hk
  have k2 := order2_count ltInt d r1.2.1 k r1.2.2
  rw [← h2] at l2 k2
  have e : median ltInt d a b k s = (r3.2.1, r3.2.2) := by unfold median; rw [← h1]; simp only []; rw [← h2, ← h3]
  rw [e]
  have c1 : ∀ w, Hid (Cn w0 blk off d c s w) → Calls Yba.prog 42 #[.slice (some ⟨blk, off, none⟩) n cap, .int .i64 a, .int .i64 b, .pointer (some ⟨c, 0, none⟩)] w fun e w' => e = .returned (.tuple #[.int .i64 (r1.1 : Nat), .int .i64 (r1.2.1 : Nat)]) ∧ Hid (Cn w0 blk off d c r1.2.2 w') := by
    rw [h1]; exact fun w h => ord86 B cap a b c s d w hs h.out ha hb (by omega)
  have c2 : ∀ w, Hid (Cn w0 blk off d c r1.2.2 w) → Calls Yba.prog 42 #[.slice (some ⟨blk, off, none⟩) n cap, .int .i64 (r1.2.1 : Nat), .int .i64 k, .pointer (some ⟨c, 0, none⟩)] w fun e w' => e = .returned (.tuple #[.int .i64 (r2.1 : Nat), .int .i64 (r2.2.1 : Nat)]) ∧ Hid (Cn w0 blk off d c r2.2.2 w') := by
    rw [h2]; exact fun w h => ord86 B cap _ k c _ d w hs h.out l1.2 hk (by omega)
  have c3 : ∀ w, Hid (Cn w0 blk off d c r2.2.2 w) → Calls Yba.prog 42 #[.slice (some ⟨blk, off, none⟩) n cap, .int .i64 (r1.1 : Nat), .int .i64 (r2.1 : Nat), .pointer (some ⟨c, 0, none⟩)] w fun e w' => e = .returned (.tuple #[.int .i64 (r3.1 : Nat), .int .i64 (r3.2.1 : Nat)]) ∧ Hid (Cn w0 blk off d c r3.2.2 w') := by
    rw [h3]; exact fun w h => ord86 B cap _ _ c _ d w hs h.out l1.1 l2.1 (by omega)
  clear h1 h2 h3 e l1 l2 k1 k2 B
  obtain ⟨p1, q1, s1⟩ := r1
  obtain ⟨p2, q2, s2⟩ := r2
  obtain ⟨p3, q3, s3⟩ := r3
  simp only [] at c1 c2 c3 ⊢
  have d1 := c1 w C
  clear c1 C
  go_enter Yba.func40, Yba.ntmps40
  go_wp2_with (go_at_call_of 42 (Value.int .i64 (b : Int)); refine d1.mono ?_; rintro e w1 ⟨rfl, S1⟩)
  have d2 := c2 w1 S1
  clear d1 c2 S1
  go_wp2_with (go_at_call_of 42 (Value.int .i64 (k : Int)); refine d2.mono ?_; rintro e w2 ⟨rfl, S2⟩)
  have d3 := c3 w2 S2
  clear d2 c3 S2
  go_wp2_with (go_at_call_of 42 (Value.int .i64 (p1 : Int)); refine d3.mono ?_; rintro e w3 ⟨rfl, S3⟩)
  go_ret
  exact ⟨rfl, S3.out⟩

set_option maxHeartbeats 4000000 in
set_option maxRecDepth 100000 in
/-- medianAdjacentOrdered. -/
theorem adj83 {w0 : World} {blk off n : Nat} (B : Bed w0 blk off n) (cap a c s : Nat) (d : Array Int) (w : World) (hs : d.size = n) (C : Cn w0 blk off d c s w) (h0 : 0 < a) (ha : a + 1 < n) (hsm : s < 900) :
    Calls Yba.prog 39 #[.slice (some ⟨blk, off, none⟩) n cap, .int .i64 a, .pointer (some ⟨c, 0, none⟩)] w fun e w' =>
      e = .returned (.int .i64 ((medianAdjacent ltInt d a s).1 : Nat)) ∧ Cn w0 blk off d c (medianAdjacent ltInt d a s).2 w' := by
  have few := B.few
  have c1 : Calls Yba.prog 40 #[.slice (some ⟨blk, off, none⟩) n cap, .int .i64 ((a : Int) - 1), .int .i64 a, .int .i64 ((a : Int) + 1), .pointer (some ⟨c, 0, none⟩)] w fun e w' => e = .returned (.int .i64 ((medianAdjacent ltInt d a s).1 : Nat)) ∧ Cn w0 blk off d c (medianAdjacent ltInt d a s).2 w' := by
    have h := med84 B cap (a - 1) a (a + 1) c s d w hs C (by omega) (by omega) ha hsm
    rw [show ((a - 1 : Nat) : Int) = (a : Int) - 1 by omega, show ((a + 1 : Nat) : Int) = (a : Int) + 1 by omega] at h
    exact h
  clear B C
  go_enter Yba.func39, Yba.ntmps39
  go_wp2_with (go_at_call 40; refine c1.mono ?_; rintro e w' ⟨rfl, S1⟩)
  go_ret
  exact ⟨rfl, S1⟩

end Go.Proofs.Ybulkbiy
