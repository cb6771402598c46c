import Derived.Test.YbulkbiySoKit
import Derived.Sort.WalkB3
import Derived.Deep.LoopGhost
namespace Go.Proofs.Ybulkbiy
open Go.RowKit Go.Sort

set_option maxHeartbeats 4000000 in
set_option maxRecDepth 100000 in
/-- siftDownOrdered. -/
theorem sift82 {w0 : World} {blk off n : Nat} (B : Bed w0 blk off n) (cap lo hi first : Nat) (d : Array Int) (w : World) (hs : d.size = n) (S : SI w0 blk off d w) (hlo : lo ≤ hi) (hb : first + hi ≤ n) :
    Calls Yba.prog 36 #[.slice (some ⟨blk, off, none⟩) n cap, .int .i64 lo, .int .i64 hi, .int .i64 first] w fun e w' => e = .returned (.tuple #[]) ∧ SI w0 blk off (siftDown ltInt hi first lo d) w' := by
  have few := B.few
  have HB : Hid (Bed w0 blk off n) := B
  have HS : Hid (SI w0 blk off d w) := S
  clear B S
  go_enter Yba.func36, Yba.ntmps36
  go_wp2_with fail
  go_loopw [8] (fun vr wr => ∃ (r : Nat) (dk : Array Int), vr = .int .i64 r ∧ r ≤ hi ∧ dk.size = n ∧ Hid (SI w0 blk off dk wr) ∧ Hid (siftDown ltInt hi first r dk = siftDown ltInt hi first lo d)) (fun vr _ => hi - (intOf vr).toNat)
  case atStart => exact ⟨lo, d, rfl, hlo, hs, HS, rfl⟩
  case round =>
    obtain ⟨r, dk, rfl, hr, hsk, HK, HE⟩ := hrel
    clear HS
    obtain ⟨G, HG, hcw, hfw⟩ := HB.out.fam HK.out hsk
    by_cases hend : hi ≤ 2 * r + 1
    · go_wp2_with fail
      go_end0
      exact ⟨rfl, by rw [← HE.out, sd_end ltInt dk hend]; exact HK.out⟩
    · have rA : IntKind.i64.wrap (2 * (r : Int) + 1 + 1) = 2 * (r : Int) + 1 + 1 := by rw [IntKind.wrap_i64]; omega
      have rB : IntKind.i64.wrap ((first : Int) + (2 * (r : Int) + 1)) = (first : Int) + (2 * (r : Int) + 1) := by rw [IntKind.wrap_i64]; omega
      have rC : IntKind.i64.wrap ((first : Int) + (2 * (r : Int) + 1) + 1) = (first : Int) + (2 * (r : Int) + 1) + 1 := by rw [IntKind.wrap_i64]; omega
      have rD : IntKind.i64.wrap ((first : Int) + (r : Int)) = (first : Int) + (r : Int) := by rw [IntKind.wrap_i64]; omega
      have rE : IntKind.i64.wrap ((first : Int) + (2 * (r : Int) + 1 + 1)) = (first : Int) + (2 * (r : Int) + 1 + 1) := by rw [IntKind.wrap_i64]; omega
      go_upto_region 3 with fail
      go_cut [36] (fun vc wx => ∃ (c : Bool) (q : Nat), vc = .bool c ∧ Hid (c = (decide (2 * r + 2 < hi) && ltInt (G (first + (2 * r + 1))) (G (first + (2 * r + 2))))) ∧ wx = wr.drewN q)
      case first =>
        by_cases hle : 2 * r + 2 < hi
        · have hz : 2 * (r : Int) + 1 + 1 < (hi : Int) := by omega
          go_big_quiet (first | (go_at_call 31; refine Calls.quiet_of_same (less78 _ _ _)))
          go_wp2
          go_meet
          exact ⟨_, nq, rfl, by simp [Hid, hle, Nat.add_assoc], rfl⟩
        · have hz : ¬ 2 * (r : Int) + 1 + 1 < (hi : Int) := by omega
          go_big_quiet (first | (go_at_call 31; refine Calls.quiet_of_same (less78 _ _ _)))
          go_wp2
          go_meet
          exact ⟨_, nq, rfl, by simp [Hid, hle], rfl⟩
      case rest =>
        obtain ⟨c, q, rfl, hc, hw2⟩ := hcut
        have H2 : Hid (SI w0 blk off dk wc) := by rw [hw2]; exact SI.drawn HK.out q
        have hcw2 : ∀ t, t < n → wc.cell? ⟨blk, off + t, none⟩ = some (.int .u64 (G t)) := by rw [hw2]; exact hcw
        have hfw2 : ∀ t, t < n → wc.frozen? ⟨blk, off + t, none⟩ = false := by rw [hw2]; exact hfw
        clear hw2 HK hcw hfw rA rB rC rE
        rename World => w2
        go_upto_if 36 with fail
        go_cut [9] (fun vh wx => ∃ ch : Nat, vh = .int .i64 ch ∧ ch = 2 * r + 1 + c.toNat ∧ wx = w2)
        case first =>
          cases c with
          | true =>
            go_wp2_with fail
            go_meet
            exact ⟨2 * r + 2, by go_num, rfl, rfl⟩
          | false =>
            go_wp2_with fail
            go_meet
            exact ⟨2 * r + 1, by go_num, rfl, rfl⟩
        case rest =>
          obtain ⟨ch, rfl, hch, rfl⟩ := hcut
          have hhi : ch < hi ∧ r < ch := by
            cases c with
            | true =>
              have hp : 2 * r + 2 < hi ∧ ltInt (G (first + (2 * r + 1))) (G (first + (2 * r + 2))) = true := by simpa using hc.out.symm
              have := hp.1
              simp at hch
              omega
            | false => simp at hch; omega
          have hch1 := hhi.1
          have hch2 := hhi.2
          have rE : IntKind.i64.wrap ((first : Int) + (ch : Int)) = (first : Int) + (ch : Int) := by rw [IntKind.wrap_i64]; omega
          have HCH : Hid (ch = 2 * r + 1 + c.toNat) := hch
          have STOP : Hid (ltInt (G (first + r)) (G (first + ch)) = false → siftDown ltInt hi first r dk = dk) := by
            intro h3
            rw [HG.out, HG.out] at h3
            have h0 := hc.out
            rw [HG.out, HG.out] at h0
            cases c with
            | true =>
              have hp : 2 * r + 2 < hi ∧ ltInt dk[first + (2 * r + 1)]! dk[first + (2 * r + 2)]! = true := by simpa using h0.symm
              obtain rfl : ch = 2 * r + 2 := HCH.out
              exact sd_right_stop ltInt dk hp.1 hp.2 h3
            | false =>
              obtain rfl : ch = 2 * r + 1 := HCH.out
              exact sd_left_stop ltInt dk (by omega) (fun h => by simpa [h] using h0.symm) h3
          have GO : Hid (ltInt (G (first + r)) (G (first + ch)) = true → siftDown ltInt hi first r dk = siftDown ltInt hi first ch (swp dk (first + r) (first + ch))) := by
            intro h3
            rw [HG.out, HG.out] at h3
            have h0 := hc.out
            rw [HG.out, HG.out] at h0
            cases c with
            | true =>
              have hp : 2 * r + 2 < hi ∧ ltInt dk[first + (2 * r + 1)]! dk[first + (2 * r + 2)]! = true := by simpa using h0.symm
              obtain rfl : ch = 2 * r + 2 := HCH.out
              exact sd_right_go ltInt dk hp.1 hp.2 h3
            | false =>
              obtain rfl : ch = 2 * r + 1 := HCH.out
              exact sd_left_go ltInt dk (by omega) (fun h => by simpa [h] using h0.symm) h3
          clear hhi hch HCH hc hend
          go_wp2_with fail
          go_big_quiet (first | (go_at_call 31; refine Calls.quiet_of_same (less78 _ _ _)))
          cases hl : ltInt (G (first + r)) (G (first + ch)) with
          | true =>
            have GOE : Hid _ := GO.out hl
            clear STOP GO
            go_wp2_with fail
            go_region
            all_goals go_wp2_with fail
            all_goals go_roundw
            case rel => exact ⟨ch, swp dk (first + r) (first + ch), rfl, by omega, by rw [size_swp]; exact hsk, SI.swap HB.out (SI.drawn H2.out _) hsk HG.out (first + r) (first + ch) (by omega) (by omega), GOE.out.symm.trans HE.out⟩
            case measure => simp [intOf]; omega
          | false =>
            have SE : Hid _ := STOP.out hl
            clear STOP GO
            go_wp2_with fail
            refine bodyPost_ret (results_none rfl _ _ _) rfl ?_
            exact ⟨rfl, by rw [← HE.out, SE.out]; exact SI.drawn H2.out _⟩

set_option maxHeartbeats 4000000 in
set_option maxRecDepth 100000 in
/-- heapSortOrdered. -/
theorem heap73 {w0 : World} {blk off n : Nat} (B : Bed w0 blk off n) (cap a b : Nat) (d : Array Int) (w : World) (hs : d.size = n) (S : SI w0 blk off d w) (hab : a ≤ b) (hb : b ≤ n) :
    Calls Yba.prog 26 #[.slice (some ⟨blk, off, none⟩) n cap, .int .i64 a, .int .i64 b] w fun e w' => e = .returned (.tuple #[]) ∧ SI w0 blk off (heapSort ltInt d a b) w' := by
  have few := B.few
  have HB : Hid (Bed w0 blk off n) := B
  have HS : Hid (SI w0 blk off d w) := S
  have ecast : (b : Int) - (a : Int) = ((b - a : Nat) : Int) := by omega
  have ehalf := half_start hab
  clear B S
  go_enter Yba.func26, Yba.ntmps26
  go_wp2_with fail
  go_loopg [9] ((b - a - 1) / 2 + 1) (fun k s9 wr => s9 = .int .i64 ((k : Int) - 1) ∧ k ≤ (b - a - 1) / 2 + 1 ∧ ∃ dk : Array Int, dk.size = n ∧ Hid (SI w0 blk off dk wr) ∧ Hid (heapBuild ltInt (b - a) a k dk = heapBuild ltInt (b - a) a ((b - a - 1) / 2 + 1) d))
  case atStart => exact ⟨by rw [← ecast, ehalf], Nat.le_refl _, d, hs, HS, rfl⟩
  case round =>
    obtain ⟨rfl, hk, dk, hsk, HK, HE⟩ := hrel
    clear HS
    cases gk with
    | zero =>
      go_wp2_with fail
      go_loopg [10] (b - a) (fun k s10 wr => s10 = .int .i64 ((k : Int) - 1) ∧ k ≤ b - a ∧ ∃ dj : Array Int, dj.size = n ∧ Hid (SI w0 blk off dj wr) ∧ Hid (heapPop ltInt a k dj = heapSort ltInt d a b))
      case atStart => exact ⟨rfl, Nat.le_refl _, dk, hsk, HK, by show heapPop ltInt a (b - a) dk = _; rw [heapSort, ← HE.out]; rfl⟩
      case round =>
        clear HK
        obtain ⟨rfl, hk2, dj, hsj, HJ, HP⟩ := hrel
        cases gk with
        | zero =>
          go_wp2_with fail
          go_end0
          exact ⟨rfl, by rw [← HP.out]; exact HJ.out⟩
        | succ k =>
          obtain ⟨G, HG, hcw, hfw⟩ := HB.out.fam HJ.out hsj
          have ek : ((k + 1 : Nat) : Int) - 1 = (k : Int) := by omega
          obtain ⟨v3, hy3⟩ := cell?_setCell_some (w := wr) (p := ⟨blk, off + a, none⟩) (x := .int .u64 (G (a + k))) (q := ⟨blk, off + (a + k), none⟩) (hcw (a + k) (by omega))
          rw [ek]
          have hka : a + k < n := by omega
          have rE : IntKind.i64.wrap ((a : Int) + (k : Int)) = (a : Int) + (k : Int) := by rw [IntKind.wrap_i64]; omega
          go_wp2_with fail
          go_region
          all_goals go_wp2_with (first | (go_at_call 36; refine (sift82 HB.out cap 0 k a (swp dj a (a + k)) _ (by rw [size_swp]; exact hsj) (SI.swap HB.out (SI.drawn HJ.out _) hsj HG.out a (a + k) (by omega) (by omega)) (by omega) (by omega)).mono ?_; rintro e w' ⟨rfl, S'⟩))
          all_goals
            have HX : Hid _ := S'
            clear S'
            go_wp2_with fail
          all_goals go_roundg k
          case measure => omega
          case rel => exact ⟨rfl, by omega, siftDown ltInt k a 0 (swp dj a (a + k)), by rw [size_siftDown ltInt _ _ _ _ _ (Nat.le_refl _), size_swp]; exact hsj, HX, HP.out⟩
    | succ k =>
      have ek : ((k + 1 : Nat) : Int) - 1 = (k : Int) := by omega
      rw [ek]
      go_wp2_with (first | (go_at_call 36; refine (sift82 HB.out cap k (b - a) a dk _ hsk HK.out (by omega) (by omega)).mono ?_; rintro e w' ⟨rfl, S'⟩))
      have HX : Hid _ := S'
      clear S'
      go_wp2_with fail
      go_roundg k
      case measure => omega
      case rel => exact ⟨rfl, by omega, siftDown ltInt (b - a) a k dk, by rw [size_siftDown ltInt _ _ _ _ _ (Nat.le_refl _)]; exact hsk, HX, HE.out⟩

end Go.Proofs.Ybulkbiy
