import Derived.Test.YbulkbikBuildA
import Derived.Laws.BitsLemmas
namespace Go.Proofs.Ybulkbik
attribute [local go_sem ↓] Go.wp_at_zero Go.wp_at_succ
open Go.RowKit Go.Maps

theorem infoA45 : (Yba.prog.info? 45).map (fun i => (i.zero, i.size, i.bytes)) = some (some (.int .i32 0), 1, 4) := by kernel_rfl
theorem infoA43 : (Yba.prog.info? 43).map (fun i => (i.zero, i.size, i.bytes)) = some (some (.slice none 0 0), 1, 24) := by kernel_rfl
theorem makeA24 (n : Nat) (hn : n ≤ 1000000) (w : World) : (Instr.makeSlice 24 (.int .i64 (n : Int)) (.int .i64 (n : Int))).run Yba.prog w =
    .ok (.slice (some ⟨w.heap.size, 0, none⟩) n n) (w.alloc (.cells (madeCells #[.int .i32 0] n) 45)) :=
  run_make_row' 24 45 (.int .i32 0) 4 Yba.underlying24 infoA45 rfl .i64 .i64 n (by omega) (by omega) w
theorem makeA25 (n : Nat) (hn : n ≤ 1000000) (w : World) : (Instr.makeSlice 25 (.int .i64 (n : Int)) (.int .i64 (n : Int))).run Yba.prog w =
    .ok (.slice (some ⟨w.heap.size, 0, none⟩) n n) (w.alloc (.cells (madeCells #[.slice none 0 0] n) 43)) :=
  run_make_row' 25 43 (.slice none 0 0) 24 Yba.underlying25 infoA43 rfl .i64 .i64 n (by omega) (by omega) w

/-- How a byte is read as an access: the transaction's index twice, and one for a write. -/
def accV (n z : Nat) : Nat := 2 * ((z / 2) % n) + z % 2

theorem accV_lt {n z : Nat} (hn : 0 < n) : accV n z < 2 * n := by
  have := Nat.mod_lt (z / 2) hn
  unfold accV; omega

theorem and1 (z : Nat) (hz : z < 256) : bits .and .u8 (z : Int) 1 = ((z % 2 : Nat) : Int) := by
  have := bits_mask .u8 8 (by decide) wraps_u8 1 (by decide) (z : Int) (by omega) (by omega)
  simpa using this

theorem or1 (t b : Nat) (ht : t < 1000) (hb : b < 2) : bits .or .i32 ((t : Int) * 2) (b : Int) = ((2 * t + b : Nat) : Int) := by
  have := bits_join .i32 31 (by decide) wraps_i32 1 ((t : Int) * 2) (b : Int) (by omega) (by omega) (by omega) (by omega) (by omega) (by omega)
  rw [this]; push_cast; omega

/-- What 'zzs0114abuild' has laid: the transactions' numbers at tb, the lists at ob, list x at ib x. -/
structure LaidA (w : World) (n m tb ob : Nat) (ib : Nat → Nat) (L : Nat → Nat) (V : Nat → Nat → Nat) : Prop where
  txs : w.rowIs tb 45 n (fun i => .int .i32 ((2 * i + 1 : Nat) : Int))
  outer : w.rowIs ob 43 m (fun x => .slice (some ⟨ib x, 0, none⟩) (L x) (L x))
  inner : ∀ x, x < m → w.rowIs (ib x) 21 (L x) (fun k => .int .i32 (V x k : Nat))

theorem info27 : (Yba.prog.info? 27).map (·.size) = some 2 := by kernel_rfl
theorem info39 : (Yba.prog.info? 39).map (·.size) = some 2 := by kernel_rfl

/-- A struct of type 27 that lies in memory, and a number, as results. -/
theorem ret27n {fn : Func} {p u : Tmp} (h : fn.results = #[.cell p 27, .tmp u]) {tmps : Array Value} {w : World} {g t : Nat} {f : Nat → Value} (hp : tmps.getD p undef = .pointer (some ⟨g, 0, none⟩)) (hr : w.rowIs g t 2 f) :
    (results fn tmps).run Yba.prog w = .ok (.tuple #[.agg #[f 0, f 1], tmps.getD u undef]) w := by
  have hp' : tmps[p]?.getD undef = .pointer (some ⟨g, 0, none⟩) := by simpa using hp
  simp [results, h, hp', asAddr, run_loadVar_row w g t 27 _ _ _ (rowIs_block2 hr) Yba.underlying27 rfl info27]

theorem ret27 {fn : Func} {p : Tmp} (h : fn.results = #[.cell p 27]) {tmps : Array Value} {w : World} {g t : Nat} {f : Nat → Value} (hp : tmps.getD p undef = .pointer (some ⟨g, 0, none⟩)) (hr : w.rowIs g t 2 f) :
    (results fn tmps).run Yba.prog w = .ok (.agg #[f 0, f 1]) w :=
  results_cell_row h tmps w g t _ _ _ hp (rowIs_block2 hr) Yba.underlying27 rfl info27

theorem ret39 {fn : Func} {p : Tmp} (h : fn.results = #[.cell p 39]) {tmps : Array Value} {w : World} {g t : Nat} {f : Nat → Value} (hp : tmps.getD p undef = .pointer (some ⟨g, 0, none⟩)) (hr : w.rowIs g t 2 f) :
    (results fn tmps).run Yba.prog w = .ok (.agg #[f 0, f 1]) w :=
  results_cell_row h tmps w g t _ _ _ hp (rowIs_block2 hr) Yba.underlying39 rfl info39

/-- How far 'zzs0114abuild' has come: x lists are laid. -/
structure MidA (w wr : World) (n m x : Nat) (L : Nat → Nat) (V : Nat → Nat → Nat) : Prop where
  size : wr.heap.size = w.heap.size + 1 + 1 + 1 + x
  bel : Below w.heap.size w wr
  res : wr.rowIs w.heap.size 27 2 (fun _ => .slice none 0 0)
  txs : wr.rowIs (w.heap.size + 1) 45 n (fun i => .int .i32 ((2 * i + 1 : Nat) : Int))
  outer : wr.rowIs (w.heap.size + 1 + 1) 43 m (fun y => if y < x then .slice (some ⟨w.heap.size + 1 + 1 + 1 + y, 0, none⟩) (L y) (L y) else .slice none 0 0)
  inner : ∀ y, y < x → wr.rowIs (w.heap.size + 1 + 1 + 1 + y) 21 (L y) (fun k => .int .i32 (V y k : Nat))

theorem MidA.next {w wr wx : World} {n m x : Nat} {L : Nat → Nat} {V : Nat → Nat → Nat} {c : Array Value} (h : MidA w wr n m x L V) (hb : Below wr.heap.size (wr.alloc (.cells c 21)) wx) (hsz : wx.heap.size = wr.heap.size + 1) (hrow : wx.rowIs wr.heap.size 21 (L x) (fun k => .int .i32 (V x k : Nat))) :
    MidA w (wx.setCell ⟨w.heap.size + 1 + 1, x, none⟩ (.slice (some ⟨wr.heap.size, 0, none⟩) (L x) (L x))) n m (x + 1) L V := by
  have hs := h.size
  have old : ∀ {b t l : Nat} {f : Nat → Value}, wr.rowIs b t l f → wx.rowIs b t l f := fun {b t l f} hr => (hr.alloc _).of_block (hb.block _ hr.lt)
  refine ⟨by simp; omega, ?_, (old h.res).setOther (by simp; omega) _, (old h.txs).setOther (by simp) _, ?_, ?_⟩
  · exact (((h.bel.alloc (by omega) _).trans (hb.mono (by omega)))).setCell (by simp; omega) _
  · refine ((old h.outer).set x _).congr (fun y _ => ?_)
    by_cases e : y = x
    · subst e
      rw [if_pos rfl, if_pos (by omega), hs]
    · rw [if_neg e]
      by_cases hy : y < x
      · rw [if_pos hy, if_pos (by omega)]
      · rw [if_neg hy, if_neg (by omega)]
  · intro y hy
    by_cases e : y = x
    · subst e
      rw [← hs]
      exact hrow.setOther (by simp; omega) _
    · exact (old (h.inner y (by omega))).setOther (by simp; omega) _

set_option maxRecDepth 100000 in
set_option maxHeartbeats 4000000 in
theorem build10 (a0 : Option Addr) (m cap : Nat) (A : Nat → Option Addr) (L C : Nat → Nat) (Z : Nat → Nat → Nat) (w : World) (z : Nat) (hz : z < 256) (h : RawArg w a0 m A L C Z) (hm : m ≤ 256) (hs : sumTo L m ≤ 1024) :
    Calls Yba.prog 10 #[.int .u8 (z : Nat), .slice a0 m cap] w fun e w' =>
      e = .returned (.tuple #[.agg #[.slice (some ⟨w.heap.size + 1, 0, none⟩) (z % 8 + 1) (z % 8 + 1), .slice (some ⟨w.heap.size + 1 + 1, 0, none⟩) m m], .int .i64 ((z % 8 + 1 : Nat) : Int)]) ∧ Below w.heap.size w w' ∧
      LaidA w' (z % 8 + 1) m (w.heap.size + 1) (w.heap.size + 1 + 1) (fun x => w.heap.size + 1 + 1 + 1 + x) L (fun x k => accV (z % 8 + 1) (Z x k)) := by
  obtain ⟨n, hn⟩ : ∃ n, n = z % 8 + 1 := ⟨_, rfl⟩
  rw [← hn]
  have hn8 : 0 < n ∧ n ≤ 8 := by omega
  have en : (z : Int) % 8 + 1 = (n : Int) := by omega
  clear hn
  have mk1 := makeA24 n (by omega)
  have mk2 := makeA25 m (by omega)
  go_enter Yba.func10, Yba.ntmps10
  go_wp2_with fail
  go_loopw [8] (fun vi wr => ∃ k : Nat, k ≤ n ∧ vi = .int .i64 (k : Nat) ∧ wr.heap.size = w.heap.size + 1 + 1 ∧ Below w.heap.size w wr ∧ wr.rowIs w.heap.size 27 2 (fun _ => .slice none 0 0) ∧ wr.rowIs (w.heap.size + 1) 45 n (fun i => .int .i32 (if i < k then ((2 * i + 1 : Nat) : Int) else 0))) (fun vi _ => n - (intOf vi).toNat)
  case atStart =>
    refine ⟨0, Nat.zero_le _, rfl, by simp, ((Below.refl _ w).alloc (Nat.le_refl _) _).alloc (by simp) _, ?_, ?_⟩
    · exact (World.rowIs_alloc w #[.slice none 0 0, .slice none 0 0] 27 (fun _ => .slice none 0 0) (fun i hi => by
        match i, hi with
        | 0, _ => rfl
        | 1, _ => rfl)).alloc _
    · have := World.rowIs_made (w.alloc (.cells #[.slice none 0 0, .slice none 0 0] 27)) (.int .i32 0) n 45
      simp only [World.size_alloc] at this
      exact this.congr (fun i _ => by simp)
  case round =>
    obtain ⟨k, hk, rfl, hsz, hbel, hres, htx⟩ := hrel
    by_cases hlt : k < n
    · have c1 := htx.cell (i := k) hlt
      have f1 := htx.frozen k
      have wr1 : IntKind.i32.wrap (2 * (k : Int) + 1) = 2 * (k : Int) + 1 := by rw [IntKind.wrap_i32]; omega
      go_wp2_with fail
      go_roundw
      case rel =>
        refine ⟨k + 1, by omega, by go_num, by simpa using hsz, hbel.setCell (by simp) _, hres.setOther (by simp) _, (htx.set k _).congr (fun i _ => ?_)⟩
        by_cases e : i = k
        · subst e
          rw [if_pos rfl, if_pos (by omega)]
          go_num
        · rw [if_neg e]
          by_cases hi : i < k
          · rw [if_pos hi, if_pos (by omega)]
          · rw [if_neg hi, if_neg (by omega)]
      case measure => simp [intOf]; omega
    · have hkn : k = n := by omega
      subst hkn
      have mid0 : MidA w (wr.alloc (.cells (madeCells #[.slice none 0 0] m) 43)) k m 0 L (fun x q => accV k (Z x q)) := by
        refine ⟨by simp [hsz], hbel.alloc (by omega) _, hres.alloc _, (htx.congr (fun i hi => by rw [if_pos hi])).alloc _, ?_, fun y hy => absurd hy (Nat.not_lt_zero _)⟩
        have := World.rowIs_made wr (.slice none 0 0) m 43
        rw [hsz] at this
        exact this.congr (fun i _ => by simp)
      have HM : Hid (MidA w (wr.alloc (.cells (madeCells #[.slice none 0 0] m) 43)) k m 0 L (fun x q => accV k (Z x q))) := mid0
      clear mid0 hres htx hbel
      go_wp2_with fail
      generalize wr.alloc (.cells (madeCells #[.slice none 0 0] m) 43) = w1 at HM ⊢
      clear hsz
      go_loopw [39] (fun vx wr => ∃ x : Nat, x ≤ m ∧ vx = .int .i64 (x : Nat) ∧ Hid (MidA w wr k m x L (fun x q => accV k (Z x q)))) (fun vx _ => m - (intOf vx).toNat)
      case atStart => exact ⟨0, Nat.zero_le _, rfl, HM⟩
      case round =>
        clear HM
        obtain ⟨x, hx, rfl, HM⟩ := hrel
        by_cases hlx : x < m
        · obtain ⟨b, o, rfl, hraw⟩ := (h.of_below HM.out.bel).at hlx
          have co := hraw.outer x hlx
          have hLx : L x ≤ 1024 := by have := sumTo_get L hlx; omega
          have mk3 := make43 (L x) (by omega)
          have hb1 := hraw.lt
          have ob1 := HM.out.outer.lt
          go_wp2_with fail
          rename World => wo
          have row0 := World.rowIs_made wo (.int .i32 0) (L x) 21
          obtain ⟨w2, hw2⟩ : ∃ w2, w2 = wo.alloc (.cells (madeCells #[.int .i32 0] (L x)) 21) := ⟨_, rfl⟩
          have hs2 : w2.heap.size = wo.heap.size + 1 := by rw [hw2]; simp
          have raw2 : RawA w2 b o m A L C Z := by rw [hw2]; exact hraw.of_below ((Below.refl _ _).alloc (Nat.le_refl _) _)
          have HW2 : Hid (w2 = wo.alloc (.cells (madeCells #[.int .i32 0] (L x)) 21)) := hw2
          rw [← hw2] at row0 ⊢
          obtain ⟨lb, hlb⟩ : ∃ lb, lb = wo.heap.size := ⟨_, rfl⟩
          rw [← hlb] at row0 hs2 ⊢
          have hbig : w.heap.size + 1 + 1 < lb := by omega
          have HLB : Hid (lb = wo.heap.size) := hlb
          clear hw2 hraw co mk1 mk2 mk3 hlb ob1
          go_loopw [49] (fun vq wx => ∃ q : Nat, q ≤ L x ∧ vq = .int .i64 (q : Nat) ∧ Below lb w2 wx ∧ wx.heap.size = lb + 1 ∧ wx.rowIs lb 21 (L x) (fun i => .int .i32 (if i < q then (accV k (Z x i) : Int) else 0))) (fun vq _ => L x - (intOf vq).toNat)
          case atStart => exact ⟨0, Nat.zero_le _, rfl, Below.refl _ _, hs2, row0.congr (fun i _ => by simp)⟩
          case round =>
            clear row0
            obtain ⟨q, hq, rfl, hbx, hsx, hrow⟩ := hrel
            by_cases hlq : q < L x
            · obtain ⟨b', o', ha, hb', hc'⟩ := raw2.inner x hlx q hlq
              have hz' := raw2.byte x hlx q hlq
              have hlb' : b' < lb := by
                obtain ⟨b2, o2, ha2, hb2, _⟩ := (h.of_below HM.out.bel).at hlx |>.choose_spec.choose_spec.2.inner x hlx q hlq
                rw [ha] at ha2
                injection ha2 with e
                injection e with e1 e2
                rw [e1, HLB.out]
                exact hb2
              have hcx := (hbx.cell (p := ⟨b', o' + q, none⟩) (by omega)).trans hc'
              have c1 := hrow.cell (i := q) hlq
              have f1 := hrow.frozen q
              have hA : accV k (Z x q) = 2 * ((Z x q / 2) % k) + Z x q % 2 := rfl
              obtain ⟨zb, hzb⟩ : ∃ zb, zb = Z x q := ⟨_, rfl⟩
              rw [← hzb] at hcx hz' hA
              obtain ⟨t, ht⟩ : ∃ t, t = (zb / 2) % k := ⟨_, rfl⟩
              have htk : t < k := by rw [ht]; exact Nat.mod_lt _ hn8.1
              rw [← ht] at hA
              have et : ((zb : Int) / 2) % (k : Int) = (t : Int) := by rw [ht]; push_cast; rfl
              have eand := and1 zb hz'
              obtain ⟨bb, hbb⟩ : ∃ bb, bb = zb % 2 := ⟨_, rfl⟩
              have hb2 : bb < 2 := by omega
              rw [← hbb] at eand hA
              have eor := or1 t bb (by omega) hb2
              rw [← hA] at eor
              have HZ : Hid (zb = Z x q) := hzb
              have HA : Hid _ := hA
              clear ht hbb hzb hA
              have hLA : A x = some ⟨b', o', none⟩ := ha
              go_wp2_with fail
              go_roundw
              case rel =>
                refine ⟨q + 1, by omega, by go_num, hbx.setCell (by simp) _, by simpa using hsx, (hrow.set q _).congr (fun i _ => ?_)⟩
                by_cases e : i = q
                · subst e
                  rw [if_pos rfl, if_pos (by omega), HZ.out]
                · rw [if_neg e]
                  by_cases hi : i < q
                  · rw [if_pos hi, if_pos (by omega)]
                  · rw [if_neg hi, if_neg (by omega)]
              case measure => simp [intOf]; omega
            · have hqL : q = L x := by omega
              have HROW : Hid (wr.rowIs lb 21 (L x) (fun i => .int .i32 ((accV k (Z x i) : Nat) : Int))) := hrow.congr (fun i hi => by rw [if_pos (by omega)])
              have hol := HM.out.outer.lt
              have o2 := ((HM.out.outer.alloc (.cells (madeCells #[.int .i32 0] (L x)) 21)).cell (i := x) hlx)
              have fo2 := ((HM.out.outer.alloc (.cells (madeCells #[.int .i32 0] (L x)) 21)).frozen x)
              rw [← HW2.out] at o2 fo2
              rw [← HLB.out] at hol
              have o3 := (hbx.cell (p := ⟨w.heap.size + 1 + 1, x, none⟩) hol).trans o2
              have fo3 := (hbx.frozen (p := ⟨w.heap.size + 1 + 1, x, none⟩) hol).trans fo2
              clear o2 fo2 hrow
              go_wp2_with fail
              go_roundw
              case rel =>
                have hnx := HM.out.next (c := madeCells #[.int .i32 0] (L x)) (wx := wr) (by rw [← HW2.out, ← HLB.out]; exact hbx) (by rw [hsx, HLB.out]) (by rw [← HLB.out]; exact HROW.out)
                rw [← HLB.out] at hnx
                exact ⟨x + 1, by omega, by go_num, hnx⟩
              case measure => simp [intOf]; omega
        · have hxm : x = m := by omega
          subst hxm
          have r0 := HM.out.res.cell (i := 0) (by omega)
          have r1 := HM.out.res.cell (i := 1) (by omega)
          have f0 := HM.out.res.frozen 0
          have f1 := HM.out.res.frozen 1
          have rl := HM.out.res.lt
          go_wp2_with fail
          have hr := (HM.out.res.set 0 (.slice (some ⟨w.heap.size + 1, 0, none⟩) k k)).set 1 (.slice (some ⟨w.heap.size + 1 + 1, 0, none⟩) x x)
          refine bodyPost_ret (ret27n Yba.results10 rfl hr) rfl ⟨rfl, (HM.out.bel.setCell (Nat.le_refl _) _).setCell (Nat.le_refl _) _, ?_, ?_, ?_⟩
          · exact (HM.out.txs.setOther (by simp) _).setOther (by simp) _
          · exact ((HM.out.outer.setOther (by simp; omega) _).setOther (by simp; omega) _).congr (fun y hy => by rw [if_pos hy])
          · exact fun y hy => ((HM.out.inner y hy).setOther (by simp; omega) _).setOther (by simp; omega) _

end Go.Proofs.Ybulkbik
