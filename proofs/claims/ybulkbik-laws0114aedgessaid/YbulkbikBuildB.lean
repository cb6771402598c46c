import Derived.Test.YbulkbikItems19
import Derived.Test.YbulkbikPlainB
namespace Go.Proofs.Ybulkbik
attribute [local go_sem ↓] Go.wp_at_zero Go.wp_at_succ
open Go.RowKit Go.Maps

/-- The raw operations of law B that came in. -/
def RawB (w : World) (b off n : Nat) (kd T it : Nat → Int) : Prop :=
  ∀ i, i < n → w.cell? ⟨b, off + i * 3, none⟩ = some (.int .u8 (kd i)) ∧ w.cell? ⟨b, off + i * 3 + 1, none⟩ = some (.int .i32 (T i)) ∧ w.cell? ⟨b, off + i * 3 + 2, none⟩ = some (.int .u8 (it i)) ∧
    0 ≤ kd i ∧ kd i ≤ 255 ∧ 0 ≤ it i ∧ it i ≤ 255 ∧ -2147483648 ≤ T i ∧ T i ≤ 2147483647

theorem RawB.of_below {w w' : World} {b off n kd T it} (h : RawB w b off n kd T it) {B : Nat} (hb : Below B w w') (hlt : b < B) : RawB w' b off n kd T it := by
  intro i hi
  obtain ⟨h1, h2, h3, h4⟩ := h i hi
  exact ⟨(hb.cell (by exact hlt)).trans h1, (hb.cell (by exact hlt)).trans h2, (hb.cell (by exact hlt)).trans h3, h4⟩

/-- The table of kinds and of items. -/
def kindTab : List ByteArray := [⟨#[114]⟩, ⟨#[119]⟩, ⟨#[114]⟩, ⟨#[119]⟩, ⟨#[99]⟩, ⟨#[97]⟩, ⟨#[114]⟩, ⟨#[119]⟩, ⟨#[115, 108]⟩, ⟨#[120, 108]⟩, ⟨#[108]⟩, ⟨#[117]⟩, ⟨#[]⟩]
def itemTab : List ByteArray := [⟨#[120]⟩, ⟨#[121]⟩, ⟨#[]⟩, ⟨#[108, 111, 110, 103, 105, 116, 101, 109, 57]⟩]
def kindB (k : Int) : ByteArray := kindTab.getD (k % 13).toNat ⟨#[]⟩
def itemB (k : Int) : ByteArray := itemTab.getD (k % 4).toNat ⟨#[]⟩

theorem itemB_size (k : Int) : (itemB k).size ≤ 9 := by
  have h : ∀ j, (itemTab.getD j ⟨#[]⟩).size ≤ 9 := by
    intro j
    match j with
    | 0 => decide
    | 1 => decide
    | 2 => decide
    | 3 => decide
    | j + 4 => exact Nat.zero_le _
  exact h _

def partB (kd T it : Nat → Int) (z : Nat → Value) (k : Nat) (j : Nat) : Value := if j < k * 3 then opCell (fun i => kindB (kd i)) T (fun i => itemB (it i)) j else z j

theorem partB_step (kd T it : Nat → Int) (z : Nat → Value) (k j : Nat) :
    (if j = k * 3 + 2 then Value.string (itemB (it k)) else if j = k * 3 + 1 then Value.int .i32 (T k) else if j = k * 3 then Value.string (kindB (kd k)) else partB kd T it z k j) = partB kd T it z (k + 1) j := by
  by_cases h2 : j = k * 3 + 2
  · subst h2
    rw [if_pos rfl]
    unfold partB
    rw [if_pos (by omega), opCell2]
  · rw [if_neg h2]
    by_cases h1 : j = k * 3 + 1
    · subst h1
      rw [if_pos rfl]
      unfold partB
      rw [if_pos (by omega), opCell1]
    · rw [if_neg h1]
      by_cases h0 : j = k * 3
      · subst h0
        rw [if_pos rfl]
        unfold partB
        rw [if_pos (by omega), opCell0]
      · rw [if_neg h0]
        unfold partB
        by_cases hj : j < k * 3
        · rw [if_pos hj, if_pos (by omega)]
        · rw [if_neg hj, if_neg (by omega)]

def kindCell (j : Nat) : Value := .string (kindTab.getD j ⟨#[]⟩)
def itemCell (j : Nat) : Value := .string (itemTab.getD j ⟨#[]⟩)

theorem cell_set3_far {w : World} {g o0 o1 o2 : Nat} {v0 v1 v2 : Value} {p : Addr} {u : Value} (hp : p.block ≠ g) (h : w.cell? p = some u) : (((w.setCell ⟨g, o0, none⟩ v0).setCell ⟨g, o1, none⟩ v1).setCell ⟨g, o2, none⟩ v2).drew.cell? p = some u := by
  have e : ∀ o : Nat, (⟨g, o, none⟩ : Addr) ≠ p := fun o e => hp (by rw [← e])
  rw [World.cell?_drew, World.cell?_setCell_other _ _ _ _ (e o2), World.cell?_setCell_other _ _ _ _ (e o1), World.cell?_setCell_other _ _ _ _ (e o0)]
  exact h

theorem kindRow : ∀ i, i < 13 → (#[.string ⟨#[114]⟩, .string ⟨#[119]⟩, .string ⟨#[114]⟩, .string ⟨#[119]⟩, .string ⟨#[99]⟩, .string ⟨#[97]⟩, .string ⟨#[114]⟩, .string ⟨#[119]⟩, .string ⟨#[115, 108]⟩, .string ⟨#[120, 108]⟩, .string ⟨#[108]⟩, .string ⟨#[117]⟩, .string ⟨#[]⟩] : Array Value)[i]? = some (kindCell i) := by
  intro i hi
  match i, hi with
  | 0, _ => rfl
  | 1, _ => rfl
  | 2, _ => rfl
  | 3, _ => rfl
  | 4, _ => rfl
  | 5, _ => rfl
  | 6, _ => rfl
  | 7, _ => rfl
  | 8, _ => rfl
  | 9, _ => rfl
  | 10, _ => rfl
  | 11, _ => rfl
  | 12, _ => rfl

theorem itemRow : ∀ i, i < 4 → (#[.string ⟨#[120]⟩, .string ⟨#[121]⟩, .string ⟨#[]⟩, .string ⟨#[108, 111, 110, 103, 105, 116, 101, 109, 57]⟩] : Array Value)[i]? = some (itemCell i) := by
  intro i hi
  match i, hi with
  | 0, _ => rfl
  | 1, _ => rfl
  | 2, _ => rfl
  | 3, _ => rfl

theorem bstart (w : World) (M : Array Value) (z : Nat → Value) (hz : ∀ i, i < M.size → M[i]? = some (z i)) :
    Below w.heap.size w (((w.alloc (.cells #[.string ⟨#[114]⟩, .string ⟨#[119]⟩, .string ⟨#[114]⟩, .string ⟨#[119]⟩, .string ⟨#[99]⟩, .string ⟨#[97]⟩, .string ⟨#[114]⟩, .string ⟨#[119]⟩, .string ⟨#[115, 108]⟩, .string ⟨#[120, 108]⟩, .string ⟨#[108]⟩, .string ⟨#[117]⟩, .string ⟨#[]⟩] 84)).alloc (.cells #[.string ⟨#[120]⟩, .string ⟨#[121]⟩, .string ⟨#[]⟩, .string ⟨#[108, 111, 110, 103, 105, 116, 101, 109, 57]⟩] 85)).alloc (.cells M 76)) ∧
    (((w.alloc (.cells #[.string ⟨#[114]⟩, .string ⟨#[119]⟩, .string ⟨#[114]⟩, .string ⟨#[119]⟩, .string ⟨#[99]⟩, .string ⟨#[97]⟩, .string ⟨#[114]⟩, .string ⟨#[119]⟩, .string ⟨#[115, 108]⟩, .string ⟨#[120, 108]⟩, .string ⟨#[108]⟩, .string ⟨#[117]⟩, .string ⟨#[]⟩] 84)).alloc (.cells #[.string ⟨#[120]⟩, .string ⟨#[121]⟩, .string ⟨#[]⟩, .string ⟨#[108, 111, 110, 103, 105, 116, 101, 109, 57]⟩] 85)).alloc (.cells M 76)).rowIs w.heap.size 84 13 kindCell ∧
    (((w.alloc (.cells #[.string ⟨#[114]⟩, .string ⟨#[119]⟩, .string ⟨#[114]⟩, .string ⟨#[119]⟩, .string ⟨#[99]⟩, .string ⟨#[97]⟩, .string ⟨#[114]⟩, .string ⟨#[119]⟩, .string ⟨#[115, 108]⟩, .string ⟨#[120, 108]⟩, .string ⟨#[108]⟩, .string ⟨#[117]⟩, .string ⟨#[]⟩] 84)).alloc (.cells #[.string ⟨#[120]⟩, .string ⟨#[121]⟩, .string ⟨#[]⟩, .string ⟨#[108, 111, 110, 103, 105, 116, 101, 109, 57]⟩] 85)).alloc (.cells M 76)).rowIs (w.heap.size + 1) 85 4 itemCell ∧
    (((w.alloc (.cells #[.string ⟨#[114]⟩, .string ⟨#[119]⟩, .string ⟨#[114]⟩, .string ⟨#[119]⟩, .string ⟨#[99]⟩, .string ⟨#[97]⟩, .string ⟨#[114]⟩, .string ⟨#[119]⟩, .string ⟨#[115, 108]⟩, .string ⟨#[120, 108]⟩, .string ⟨#[108]⟩, .string ⟨#[117]⟩, .string ⟨#[]⟩] 84)).alloc (.cells #[.string ⟨#[120]⟩, .string ⟨#[121]⟩, .string ⟨#[]⟩, .string ⟨#[108, 111, 110, 103, 105, 116, 101, 109, 57]⟩] 85)).alloc (.cells M 76)).rowIs (w.heap.size + 1 + 1) 76 M.size z := by
  have hk := kindRow
  have hi := itemRow
  have hks : (#[.string ⟨#[114]⟩, .string ⟨#[119]⟩, .string ⟨#[114]⟩, .string ⟨#[119]⟩, .string ⟨#[99]⟩, .string ⟨#[97]⟩, .string ⟨#[114]⟩, .string ⟨#[119]⟩, .string ⟨#[115, 108]⟩, .string ⟨#[120, 108]⟩, .string ⟨#[108]⟩, .string ⟨#[117]⟩, .string ⟨#[]⟩] : Array Value).size = 13 := rfl
  have his : (#[.string ⟨#[120]⟩, .string ⟨#[121]⟩, .string ⟨#[]⟩, .string ⟨#[108, 111, 110, 103, 105, 116, 101, 109, 57]⟩] : Array Value).size = 4 := rfl
  generalize (#[.string ⟨#[114]⟩, .string ⟨#[119]⟩, .string ⟨#[114]⟩, .string ⟨#[119]⟩, .string ⟨#[99]⟩, .string ⟨#[97]⟩, .string ⟨#[114]⟩, .string ⟨#[119]⟩, .string ⟨#[115, 108]⟩, .string ⟨#[120, 108]⟩, .string ⟨#[108]⟩, .string ⟨#[117]⟩, .string ⟨#[]⟩] : Array Value) = A at *
  generalize (#[.string ⟨#[120]⟩, .string ⟨#[121]⟩, .string ⟨#[]⟩, .string ⟨#[108, 111, 110, 103, 105, 116, 101, 109, 57]⟩] : Array Value) = B at *
  refine ⟨(((Below.refl _ _).alloc (Nat.le_refl _) _).alloc (by simp) _).alloc (by simp; omega) _, ?_, ?_, ?_⟩
  · have := World.rowIs_alloc w A 84 kindCell (by rw [hks]; exact hk)
    rw [hks] at this
    exact (this.alloc _).alloc _
  · have := World.rowIs_alloc (w.alloc (.cells A 84)) B 85 itemCell (by rw [his]; exact hi)
    rw [his] at this
    simp only [World.size_alloc] at this
    exact this.alloc _
  · have := World.rowIs_alloc ((w.alloc (.cells A 84)).alloc (.cells B 85)) M 76 z hz
    simp only [World.size_alloc] at this
    exact this

set_option maxRecDepth 100000 in
set_option maxHeartbeats 1000000 in
theorem bbuild_any (b off n cap : Nat) (kd T it : Nat → Int) (w : World) (hn : n ≤ 256) (hb : b < w.heap.size) (hraw : RawB w b off n kd T it) :
    Calls Yba.prog 14 #[.slice (some ⟨b, off, none⟩) n cap] w fun e w' => e = .returned (.slice (some ⟨w.heap.size + 1 + 1, 0, none⟩) n n) ∧ Below w.heap.size w w' ∧
      w'.rowIs (w.heap.size + 1 + 1) 76 (n * 3) (opCell (fun i => kindB (kd i)) T (fun i => itemB (it i))) := by
  have hmk := make50 n (by omega)
  obtain ⟨M, hM⟩ : ∃ M, madeCells #[.string ⟨#[]⟩, .int .i32 0, .string ⟨#[]⟩] (n * 3) = M := ⟨_, rfl⟩
  have hMs : M.size = n * 3 := by rw [← hM]; exact size_madeCells _ _
  rw [hM] at hmk
  clear hM
  obtain ⟨z, hz⟩ : ∃ z : Nat → Value, ∀ i, i < M.size → M[i]? = some (z i) := ⟨fun i => M[i]?.getD undef, fun i hi => by simp [hi]⟩
  go_enter Yba.func14, Yba.ntmps14
  go_wp2_with fail
  go_loopw [6] (fun i wr => ∃ k : Nat, k ≤ n ∧ i = .int .i64 k ∧ Below w.heap.size w wr ∧ wr.rowIs w.heap.size 84 13 kindCell ∧ wr.rowIs (w.heap.size + 1) 85 4 itemCell ∧ wr.rowIs (w.heap.size + 1 + 1) 76 (n * 3) (partB kd T it z k)) (fun i _ => n - (intOf i).toNat)
  case atStart =>
    obtain ⟨s1, s2, s3, s4⟩ := bstart w M z hz
    rw [hMs] at s4
    exact ⟨0, Nat.zero_le _, rfl, s1, s2, s3, s4.congr (fun i _ => by simp [partB])⟩
  case round =>
    obtain ⟨k, hk, rfl, hbel, hkt, hit, hrow⟩ := hrel
    by_cases hlt : k < n
    · have hI0 : (0 : Int) ≤ (k : Int) := by omega
      have hI1 : (k : Int) < (n : Int) := by omega
      obtain ⟨c0, c1, c2, hk0, hk1, hi0, hi1, _⟩ := hraw.of_below hbel hb k hlt
      have hsz := hrow.lt
      have hsz1 := hit.lt
      have hsz0 := hkt.lt
      have hbw : b < wr.heap.size := by omega
      have f0 := hrow.frozen (k * 3)
      have f1 := hrow.frozen (k * 3 + 1)
      have f2 := hrow.frozen (k * 3 + 2)
      have d0 := hrow.cell (i := k * 3) (by omega)
      have d1 := hrow.cell (i := k * 3 + 1) (by omega)
      have d2 := hrow.cell (i := k * 3 + 2) (by omega)
      have t0 : wr.cell? ⟨w.heap.size, (kd k % 13).toNat, none⟩ = some (.string (kindB (kd k))) := hkt.cell (by omega)
      have t1 : wr.cell? ⟨w.heap.size + 1, (it k % 4).toNat, none⟩ = some (.string (itemB (it k))) := hit.cell (by omega)
      have q0 : (0 : Int) ≤ kd k % 13 := by omega
      have q1 : kd k % 13 < 13 := by omega
      have q2 : (0 : Int) ≤ it k % 4 := by omega
      have q3 : it k % 4 < 4 := by omega
      have e1 : (kd k).tmod 13 = kd k % 13 := Int.tmod_eq_emod_of_nonneg hk0
      have e2 : (it k).tmod 4 = it k % 4 := Int.tmod_eq_emod_of_nonneg hi0
      have e3 : IntKind.i64.wrap (kd k) = kd k := by rw [IntKind.wrap_i64]; omega
      have e4 : IntKind.i64.wrap (it k) = it k := by rw [IntKind.wrap_i64]; omega
      have e5 : IntKind.i64.wrap (kd k % 13) = kd k % 13 := by rw [IntKind.wrap_i64]; omega
      have e6 : IntKind.i64.wrap (it k % 4) = it k % 4 := by rw [IntKind.wrap_i64]; omega
      go_wp2_with fail
      go_region_held3 (fun w' => w'.cell? ⟨b, off + k * 3, none⟩ = some (.int .u8 (kd k)) ∧ w'.cell? ⟨b, off + k * 3 + 1, none⟩ = some (.int .i32 (T k)) ∧ w'.cell? ⟨b, off + k * 3 + 2, none⟩ = some (.int .u8 (it k)) ∧
          w'.cell? ⟨w.heap.size, (kd k % 13).toNat, none⟩ = some (.string (kindB (kd k))) ∧ w'.cell? ⟨w.heap.size + 1, (it k % 4).toNat, none⟩ = some (.string (itemB (it k))))
        (first | (go_keep; done) | (refine ⟨cell_set3_far ?_ c0, cell_set3_far ?_ c1, cell_set3_far ?_ c2, cell_set3_far ?_ t0, cell_set3_far ?_ t1⟩ <;> (dsimp only; omega))) (fail)
      go_wp2_with fail
      go_roundw
      case rel =>
        refine ⟨k + 1, by omega, by go_num, (((hbel.setCell (by simp; omega) _).setCell (by simp; omega) _).setCell (by simp; omega) _).drew, ?_, ?_, ?_⟩
        · exact (((hkt.setOther (by simp; omega) _).setOther (by simp; omega) _).setOther (by simp; omega) _).drew
        · exact (((hit.setOther (by simp) _).setOther (by simp) _).setOther (by simp) _).drew
        · exact (((hrow.set _ _).set _ _).set _ _).drew.congr (fun i _ => partB_step kd T it z k i)
      case measure => simp [intOf]; omega
    · go_wp2_with fail
      go_ret
      have : k = n := by omega
      subst this
      exact ⟨rfl, hbel, hrow.congr (fun i hi => by simp [partB, hi])⟩

end Go.Proofs.Ybulkbik
