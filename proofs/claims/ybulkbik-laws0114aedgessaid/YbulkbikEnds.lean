import Derived.Test.YbulkbikTx
namespace Go.Proofs.Ybulkbik
attribute [local go_sem ↓] Go.wp_at_zero Go.wp_at_succ
open Go.RowKit Go.Maps

def lockB (s : ByteArray) : Bool := s.toList == [115, 108] || s.toList == [120, 108] || s.toList == [108] || s.toList == [117]

set_option maxHeartbeats 400000 in
theorem lock37 (s : ByteArray) (w : World) : Calls Yba.prog 37 #[.string s] w fun e w' => e = .returned (.bool (lockB s)) ∧ w' = w := by
  go_enter Yba.func37, Yba.ntmps37
  go_wp2
  all_goals first
    | (exfalso; simp_all; done)
    | (go_ret; simp [lockB, *]; done)

theorem lock_not_abort {s : ByteArray} (h : lockB s = true) : (s.toList == [97]) = false := by
  unfold lockB at h
  cases e : s.toList == [97] with
  | false => rfl
  | true =>
    have : s.toList = [97] := by simpa using e
    rw [this] at h
    simp at h

theorem info111 : (Yba.prog.info? 111).map (fun i => (i.zero, i.size, i.bytes)) = some (some (.agg #[.int .i64 0, .int .i64 0, .bool false]), 3, 24) := by kernel_rfl

theorem make66 (n : Nat) (hn : n ≤ 1000000) (w : World) : (Instr.makeSlice 66 (.int .i64 (n : Int)) (.int .i64 (n : Int))).run Yba.prog w =
    .ok (.slice (some ⟨w.heap.size, 0, none⟩) n n) (w.alloc (.cells (madeCells #[.int .i64 0, .int .i64 0, .bool false] (n * 3)) 111)) := by
  obtain ⟨i, hi, hz0, hz1, hz2⟩ := info_parts info111
  have := run_make (P := Yba.prog) w 66 111 i _ Yba.underlying66 hi hz0 .i64 .i64 n n (by omega) (Int.le_refl _) (by rw [hz2]; omega) (by omega)
  rw [hz1] at this
  simpa [Value.cells] using this

/-- The abort that is noted after the first k operations. -/
def abTo (K : Nat → ByteArray) (T : Nat → Int) (k : Nat) (t : Int) : Int := match lastBelow (fun q => ((K q).toList == [97]) && decide (T q = t)) k with
  | some q => (q : Int) + 1
  | none => 0

theorem abTo_hit (K : Nat → ByteArray) (T : Nat → Int) (k : Nat) (h : (K k).toList = [97]) : abTo K T (k + 1) (T k) = (k : Int) + 1 := by
  simp [abTo, lastBelow, h]
theorem abTo_other (K : Nat → ByteArray) (T : Nat → Int) (k : Nat) (t : Int) (h : T k ≠ t) : abTo K T (k + 1) t = abTo K T k t := by
  simp [abTo, lastBelow, h]
theorem abTo_not (K : Nat → ByteArray) (T : Nat → Int) (k : Nat) (t : Int) (h : ((K k).toList == [97]) = false) : abTo K T (k + 1) t = abTo K T k t := by
  simp [abTo, lastBelow, h]

set_option maxRecDepth 100000 in
set_option maxHeartbeats 1000000 in
theorem ends26 (ob ofb n m : Nat) (ta : Option Addr) (tc : Nat) (K S : Nat → ByteArray) (T : Nat → Int) (rk : Nat → Nat) (w : World) (hn : n ≤ 256) (hm : m ≤ 256) (hops : w.rowIs ob 76 (n * 3) (opCell K T S)) (hof : w.rowIs ofb 21 n (fun j => .int .i32 (rk j : Nat)))
    (hrk : ∀ i, i < n → rk i < m) (hinj : ∀ i j, i < n → j < n → rk i = rk j → T i = T j) (hinjT : ∀ i j, i < n → j < n → T i = T j → rk i = rk j) :
    Calls Yba.prog 26 #[.slice (some ⟨ob, 0, none⟩) n n, .agg #[.slice ta m tc, .slice (some ⟨ofb, 0, none⟩) n n]] w fun e w' => e = .returned (.slice (some ⟨w.heap.size + 1, 0, none⟩) m m) ∧ Below w.heap.size w w' ∧
      ∃ f, w'.rowIs (w.heap.size + 1) 111 (m * 3) f ∧ ∀ i, i < n → f (rk i * 3 + 1) = .int .i64 (abTo K T n (T i)) := by
  have hmk := make66 m (by omega)
  obtain ⟨M, hM⟩ : ∃ M, madeCells #[.int .i64 0, .int .i64 0, .bool false] (m * 3) = M := ⟨_, rfl⟩
  have hMs : M.size = m * 3 := by rw [← hM]; exact size_madeCells _ _
  have hM1 : ∀ j, j < m → M[j * 3 + 1]? = some (.int .i64 0) := fun j hj => by
    rw [← hM]
    simp [madeCells, show j * 3 + 1 < m * 3 by omega, show (j * 3 + 1) % 3 = 1 by omega]
  rw [hM] at hmk
  clear hM
  obtain ⟨z, hz⟩ : ∃ z : Nat → Value, ∀ i, i < M.size → M[i]? = some (z i) := ⟨fun i => M[i]?.getD undef, fun i hi => by simp [hi]⟩
  have hobl := hops.lt
  have hofl := hof.lt
  go_enter Yba.func26, Yba.ntmps26
  go_wp2_with fail
  go_loopw [15] (fun i wr => ∃ (k : Nat) (f : Nat → Value), k ≤ n ∧ i = .int .i64 k ∧ Below w.heap.size w wr ∧ wr.cell? ⟨w.heap.size, 1, none⟩ = some (.slice (some ⟨ofb, 0, none⟩) n n) ∧ wr.rowIs (w.heap.size + 1) 111 (m * 3) f ∧ (∀ i, i < n → f (rk i * 3 + 1) = .int .i64 (abTo K T k (T i))))
    (fun i _ => n - (intOf i).toNat)
  case atStart =>
    refine ⟨0, z, Nat.zero_le _, rfl, ((Below.refl _ _).alloc (Nat.le_refl _) _).alloc (by simp) _, by go_simp, ?_, fun i hi => ?_⟩
    · have := World.rowIs_alloc (w.alloc (.cells #[.slice ta m tc, .slice (some ⟨ofb, 0, none⟩) n n] 64)) M 111 z hz
      simp only [World.size_alloc] at this
      rw [hMs] at this
      exact this
    · have h1 := hz (rk i * 3 + 1) (by have := hrk i hi; omega)
      rw [hM1 _ (hrk i hi)] at h1
      simp at h1
      rw [← h1]
      rfl
  case round =>
    obtain ⟨k, f, hk, rfl, hbel, hc1, hrow, hab⟩ := hrel
    have HAB : Hid (∀ i, i < n → f (rk i * 3 + 1) = .int .i64 (abTo K T k (T i))) := hab
    clear hab
    have l1 := hrow.lt
    have l0 : w.heap.size < wr.heap.size := by omega
    by_cases hlt : k < n
    · have o0 : wr.cell? ⟨ob, k * 3, none⟩ = some (.string (K k)) := by
        rw [hbel.cell (by exact hobl), hops.cell (by omega), opCell0]
      have o1 : wr.cell? ⟨ob, k * 3 + 1, none⟩ = some (.int .i32 (T k)) := by
        rw [hbel.cell (by exact hobl), hops.cell (by omega), opCell1]
      have o2 : wr.cell? ⟨ob, k * 3 + 2, none⟩ = some (.string (S k)) := by
        rw [hbel.cell (by exact hobl), hops.cell (by omega), opCell2]
      have hobr : ob < wr.heap.size := by omega
      have hofr : ofb < wr.heap.size := by omega
      have r0 : wr.cell? ⟨ofb, k, none⟩ = some (.int .i32 (rk k : Nat)) := by
        rw [hbel.cell (by exact hofl), hof.cell hlt]
      have hr := hrk k hlt
      have d0 := hrow.cell (i := rk k * 3) (by omega)
      have d1 := hrow.cell (i := rk k * 3 + 1) (by omega)
      have d2 := hrow.cell (i := rk k * 3 + 2) (by omega)
      have f0 := hrow.frozen (rk k * 3)
      have f1 := hrow.frozen (rk k * 3 + 1)
      have f2 := hrow.frozen (rk k * 3 + 2)
      have HJ : Hid (∀ i j, i < n → j < n → rk i = rk j → T i = T j) := hinj
      have HT : Hid (∀ i j, i < n → j < n → T i = T j → rk i = rk j) := hinjT
      clear hmk
      generalize hrv : rk k = rv at *
      have HRV : Hid (rk k = rv) := hrv
      clear hrv
      cases hl : lockB (K k)
      · by_cases h99 : (K k).toList = [99]
        · have h97 : ((K k).toList == [97]) = false := by rw [h99]; decide
          go_wp2_with (first | (go_at_call 37; refine (lock37 _ _).mono ?_; rintro e w' ⟨rfl, rfl⟩))
          go_roundw
          case rel =>
            refine ⟨k + 1, _, by omega, by go_num, ((hbel.setCell (by simp) _).setCell (by simp) _).alloc (by simp; omega) _, by go_simp, ((hrow.set _ _).set _ _).alloc _, fun i hi => ?_⟩
            rw [if_neg (by omega), if_neg (by omega), HAB.out i hi, abTo_not K T k _ h97]
          case measure => simp [intOf]; omega
        · by_cases h97 : (K k).toList = [97]
          · have h99' : ((K k).toList == [99]) = false := by rw [h97]; decide
            go_wp2_with (first | (go_at_call 37; refine (lock37 _ _).mono ?_; rintro e w' ⟨rfl, rfl⟩))
            go_roundw
            case rel =>
              refine ⟨k + 1, _, by omega, by go_num, ((hbel.setCell (by simp) _).setCell (by simp) _).alloc (by simp; omega) _, by go_simp, ((hrow.set _ _).set _ _).alloc _, fun i hi => ?_⟩
              show (if rk i * 3 + 1 = rv * 3 + 1 then Value.int .i64 ((k : Int) + 1) else if rk i * 3 + 1 = rv * 3 + 2 then Value.bool true else f (rk i * 3 + 1)) = _
              by_cases he : rk i = rv
              · have hT := HJ.out i k hi hlt (by rw [he, HRV.out])
                rw [if_pos (by omega), hT, abTo_hit K T k h97]
              · rw [if_neg (by omega), if_neg (by omega), HAB.out i hi]
                by_cases hT : T k = T i
                · exfalso
                  exact he (by rw [← HRV.out]; exact HT.out i k hi hlt hT.symm)
                · rw [abTo_other K T k _ hT]
            case measure => simp [intOf]; omega
          · have h99' : ((K k).toList == [99]) = false := by simpa using h99
            have h97' : ((K k).toList == [97]) = false := by simpa using h97
            go_wp2_with (first | (go_at_call 37; refine (lock37 _ _).mono ?_; rintro e w' ⟨rfl, rfl⟩))
            go_roundw
            case rel =>
              refine ⟨k + 1, _, by omega, by go_num, (hbel.setCell (by simp) _).alloc (by simp; omega) _, by go_simp, (hrow.set _ _).alloc _, fun i hi => ?_⟩
              rw [if_neg (by omega), HAB.out i hi, abTo_not K T k _ h97']
            case measure => simp [intOf]; omega
      · have h97 : ((K k).toList == [97]) = false := lock_not_abort hl
        go_wp2_with (first | (go_at_call 37; refine (lock37 _ _).mono ?_; rintro e w' ⟨rfl, rfl⟩))
        go_roundw
        case rel => exact ⟨k + 1, f, by omega, by go_num, hbel.alloc (by omega) _, by go_simp, hrow.alloc _, fun i hi => by rw [HAB.out i hi, abTo_not K T k _ h97]⟩
        case measure => simp [intOf]; omega
    · have : k = n := by omega
      subst this
      clear hmk
      go_wp2_with fail
      go_ret
      exact ⟨rfl, hbel, f, hrow, HAB.out⟩

end Go.Proofs.Ybulkbik
