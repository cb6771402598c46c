import Derived.Test.YbulkbiySoMed
namespace Go.Proofs.Ybulkbiy
open Go.RowKit Go.Sort

set_option maxHeartbeats 4000000 in
set_option maxRecDepth 100000 in
/-- choosePivotOrdered, at more than twelve. -/
theorem piv75 {w0 : World} {blk off n : Nat} (B : Bed w0 blk off n) (cap a L : Nat) (d : Array Int) (w : World) (hs : d.size = n) (S : SI w0 blk off d w) (h12 : 12 < L) (hb : a + L ≤ n) :
    Calls Yba.prog 28 #[.slice (some ⟨blk, off, none⟩) n cap, .int .i64 a, .int .i64 ((a + L : Nat) : Int)] w fun e w' =>
      e = .returned (.tuple #[.int .i64 ((choosePivot ltInt d a (a + L)).1 : Nat), .int .i64 (hintCode (choosePivot ltInt d a (a + L)).2)]) ∧ SI w0 blk off d w' := by
  have few := B.few
  have HB : Hid (Bed w0 blk off n) := B
  have HS : Hid (SI w0 blk off d w) := S
  have h8z : (8 : Int) ≤ (L : Int) := by omega
  obtain ⟨i, hi⟩ : ∃ i : Nat, i = a + L / 4 * 1 := ⟨_, rfl⟩
  obtain ⟨j, hj⟩ : ∃ j : Nat, j = a + L / 4 * 2 := ⟨_, rfl⟩
  obtain ⟨k, hk⟩ : ∃ k : Nat, k = a + L / 4 * 3 := ⟨_, rfl⟩
  have bi : 0 < i ∧ i + 1 < n := by omega
  have bj : 0 < j ∧ j + 1 < n := by omega
  have bk : 0 < k ∧ k + 1 < n := by omega
  have eL : (a : Int) + (L : Int) - (a : Int) = (L : Int) := by omega
  have ei : (a : Int) + (L : Int) / 4 = (i : Int) := by omega
  have ej : (a : Int) + (L : Int) / 4 * 2 = (j : Int) := by omega
  have ek : (a : Int) + (L : Int) / 4 * 3 = (k : Int) := by omega
  have raw : rawPivot ltInt d a (a + L) = if 50 ≤ L then
      median ltInt d (medianAdjacent ltInt d i 0).1 (medianAdjacent ltInt d j (medianAdjacent ltInt d i 0).2).1
        (medianAdjacent ltInt d k (medianAdjacent ltInt d j (medianAdjacent ltInt d i 0).2).2).1
        (medianAdjacent ltInt d k (medianAdjacent ltInt d j (medianAdjacent ltInt d i 0).2).2).2
      else median ltInt d i j k 0 := by
    unfold rawPivot
    rw [Nat.add_sub_cancel_left, if_pos (by omega), ← hi, ← hj, ← hk]
  rw [choosePivot_eq]
  have HR : Hid _ := raw
  clear raw hi hj hk
  obtain ⟨P, hP⟩ : ∃ P, P = rawPivot ltInt d a (a + L) := ⟨_, rfl⟩
  rw [← hP]
  rw [← hP] at HR
  clear hP
  have C0 : Hid (Cn w0 blk off d w.heap.size 0 (w.alloc (.cells #[.int .i64 0] 3))) := Cn.start HS.out 3
  clear S B
  go_enter Yba.func28, Yba.ntmps28
  go_upto_if 34 with fail
  go_cut [10, 11, 12] (fun vi vj vk wx => ∃ p1 p2 p3 s3 : Nat, vi = .int .i64 p1 ∧ vj = .int .i64 p2 ∧ vk = .int .i64 p3 ∧ Hid (Cn w0 blk off d w.heap.size s3 wx) ∧ p1 < n ∧ p2 < n ∧ p3 < n ∧ s3 < 800 ∧ Hid (P = median ltInt d p1 p2 p3 s3))
  case first =>
    by_cases h50 : 50 ≤ L
    · rw [if_pos h50] at HR
      have c1 := adj83 HB.out cap i w.heap.size 0 d _ hs C0.out bi.1 bi.2 (by omega)
      have n1 := medianAdjacent_count ltInt d i 0
      have m1 := medianAdjacent_mem ltInt d i 0
      obtain ⟨r1, hr1⟩ : ∃ r, r = medianAdjacent ltInt d i 0 := ⟨_, rfl⟩
      rw [← hr1] at c1 HR n1 m1
      clear hr1
      obtain ⟨p1, s1⟩ := r1
      go_wp2_with (go_at_call_of 39 (Value.int .i64 (i : Int)); refine c1.mono ?_; rintro e w1 ⟨rfl, S1⟩)
      have c2 := adj83 HB.out cap j w.heap.size s1 d _ hs S1 bj.1 bj.2 (by simp at n1; omega)
      have n2 := medianAdjacent_count ltInt d j s1
      have m2 := medianAdjacent_mem ltInt d j s1
      obtain ⟨r2, hr2⟩ : ∃ r, r = medianAdjacent ltInt d j s1 := ⟨_, rfl⟩
      rw [← hr2] at c2 HR n2 m2
      clear hr2 S1 c1
      obtain ⟨p2, s2⟩ := r2
      go_wp2_with (go_at_call_of 39 (Value.int .i64 (j : Int)); refine c2.mono ?_; rintro e w2 ⟨rfl, S2⟩)
      have c3 := adj83 HB.out cap k w.heap.size s2 d _ hs S2 bk.1 bk.2 (by simp at n1 n2; omega)
      have n3 := medianAdjacent_count ltInt d k s2
      have m3 := medianAdjacent_mem ltInt d k s2
      obtain ⟨r3, hr3⟩ : ∃ r, r = medianAdjacent ltInt d k s2 := ⟨_, rfl⟩
      rw [← hr3] at c3 HR n3 m3
      clear hr3 S2 c2
      obtain ⟨p3, s3⟩ := r3
      go_wp2_with (go_at_call_of 39 (Value.int .i64 (k : Int)); refine c3.mono ?_; rintro e w3 ⟨rfl, S3⟩)
      go_meet
      exact ⟨p1, p2, p3, s3, rfl, rfl, rfl, S3, by omega, by omega, by omega, by omega, HR.out⟩
    · rw [if_neg h50] at HR
      go_wp2_with fail
      go_meet
      exact ⟨i, j, k, 0, rfl, rfl, rfl, C0, by omega, by omega, by omega, by omega, HR.out⟩
  case rest =>
    clear C0 HS HR ei ej ek bi bj bk
    obtain ⟨p1, p2, p3, s3, rfl, rfl, rfl, HC, l1, l2, l3, l4, HR⟩ := hcut
    have c4 := med84 HB.out cap p1 p2 p3 w.heap.size s3 d _ hs HC.out l1 l2 l3 (by omega)
    have n4 := median_count ltInt d p1 p2 p3 s3
    rw [← HR.out] at c4 n4
    clear HC HR
    obtain ⟨p, s⟩ := P
    simp only [] at c4 n4
    have HN : Hid (s < 900) := by show s < 900; omega
    by_cases s0 : s = 0
    · subst s0
      go_wp2_with (go_at_call_of 40 (Value.int .i64 (p1 : Int)); refine c4.mono ?_; rintro e w4 ⟨rfl, S4⟩; have hcs := S4.2.1)
      go_ret2
      exact ⟨rfl, S4.1⟩
    · by_cases s12 : s = 12
      · subst s12
        go_wp2_with (go_at_call_of 40 (Value.int .i64 (p1 : Int)); refine c4.mono ?_; rintro e w4 ⟨rfl, S4⟩; have hcs := S4.2.1)
        go_ret2
        exact ⟨rfl, S4.1⟩
      · have z0 : ((s : Int) == 0) = false := by simpa using s0
        have z12 : ((s : Int) == 12) = false := by simpa using (by omega : ¬ (s : Int) = 12)
        go_wp2_with (go_at_call_of 40 (Value.int .i64 (p1 : Int)); refine c4.mono ?_; rintro e w4 ⟨rfl, S4⟩; have hcs := S4.2.1)
        go_ret2
        exact ⟨by simp [hintOf, hintCode, s0, s12], S4.1⟩

end Go.Proofs.Ybulkbiy
