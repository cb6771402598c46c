import Derived.Test.YbulkbiyPlace
import Derived.Maps.AppendAt
import Derived.Laws.CopyOwn
import Derived.Lib.SliceRun
import Derived.Deep.RegionLaw
import Derived.BigRegion
/-! Rows of the call's own (numbers, values, children): append, copy, clear, cut, set; as steps of a region that draws its order, too. -/
namespace Go.Proofs.Ybulkbiy
open Go.RowKit Go.Maps Go.Sort

theorem step_append_ownY {P : Program} {ops : Array Oper} {o : Oper} {a : Act} {w : World} {K : Act → World → Prop} {Q : Exit → Act → World → Prop} {E : Prop} (hgd : o.guard = none) (s x : Operand) (t : TypeId)
    (ho : o.op = .call { callee := .builtin .append, args := #[s, x], argTypes := #[t, t] })
    (base : Nat) (e : TypeId) (i : TypeInfo) (z : Value) (size bytes : Nat) (ht : P.underlying t = some (.slice e)) (hi : P.info? e = some i) (hz : i.zero = some z)
    (hsize : i.size = size) (hby : i.bytes = bytes) (hzs : z.cells.size = size) (hsz : 0 < size)
    (v : Value) (n : Nat) (xs : List Value) (hs : a.eval s = v) (hown : w.ownsRow base e size v n xs)
    (ad : Addr) (m c : Nat) (news : List Value) (hx : a.eval x = .slice (some ad) m c) (hl : news.length = m * size) (hnews : ∀ j u, news[j]? = some u → w.cell? (ad.add j) = some u) (h1 : ∀ u ∈ news, u.oneCell' = true)
    (h63 : n + m ≤ maxLen) (hbytes : (n + m) * bytes ≤ 140737488355328) (hbase : base ≤ w.heap.size)
    (hK : ∀ v' w', w'.ownsRow base e size v' (n + m) (xs ++ news) → w.grownBy w' v.ownBlock → (v'.ownBlock = v.ownBlock ∨ v'.ownBlock = some w.heap.size) → K (a.put o.dst v') w') :
    if Region.wanted o (yielded ops a.tmps) = true then Oper.wp P o a w K Q else E := by
  have hw : Region.wanted o (yielded ops a.tmps) = true := by simp [Region.wanted, hgd]
  rw [if_pos hw]
  obtain ⟨v', w', hr, h2, h3, _, h5⟩ := run_append_own_at (P := P) w base t o.type e i z size bytes ht hi hz hsize hby hzs hsz v n xs hown ad m c news hl hnews h1 h63 hbytes hbase
  unfold Oper.wp
  simp [execOp, ho, resolve, invoke, builtin, hs, hx, hr, Result.andThen]
  exact hK _ _ h2 h3 h5

/-- What copy(v[i1:], v[i2:]) makes of a row. -/
def moved (xs : List Value) (i1 i2 k : Nat) : List Value := xs.take i1 ++ (xs.drop i2).take k ++ xs.drop (i1 + k)

theorem moved_len {xs : List Value} {i1 i2 k : Nat} (h1 : i1 + k ≤ xs.length) (h2 : i2 + k ≤ xs.length) : (moved xs i1 i2 k).length = xs.length := by
  unfold moved; simp; omega

theorem own_moved {w : World} {base e n cap g i1 i2 k : Nat} {xs : List Value} (hown : w.ownsRow base e 1 (.slice (some ⟨g, 0, none⟩) n cap) n xs) (h1 : i1 + k ≤ n) (h2 : i2 + k ≤ n) :
    ∃ cur, w.heap[g]? = some (.cells cur e (0, 0)) ∧ i1 + k ≤ cur.size ∧ ((xs.drop i2).take k).length = k ∧ (∀ j v, ((xs.drop i2).take k)[j]? = some v → w.cell? ((⟨g, i2, none⟩ : Addr).add j) = some v) ∧
      (w.setRow g (cur.toList.take i1 ++ (xs.drop i2).take k ++ cur.toList.drop (i1 + k)).toArray).ownsRow base e 1 (.slice (some ⟨g, 0, none⟩) n cap) n (moved xs i1 i2 k) := by
  have hl := hown.1
  rcases hown.2 with ⟨h, _⟩ | ⟨g', cap', cur, hv, hb, hg, hnc, hcm, hcs, ht⟩
  · simp at h
  · simp only [Value.slice.injEq, Option.some.injEq, Addr.mk.injEq, true_and, and_true] at hv
    obtain ⟨rfl, rfl⟩ := hv
    have hk : ((xs.drop i2).take k).length = k := by simp; omega
    refine ⟨cur, hg, by omega, hk, ?_, by rw [moved_len (by omega) (by omega)]; exact hl, .inr ⟨g, cap, _, rfl, hb, setRow_heap w g _ _ e _ hg, hnc, hcm, ?_, ?_⟩⟩
    · intro j v hj
      have hjk : j < k := by
        have := (List.getElem?_eq_some_iff.1 hj).1
        omega
      rw [List.getElem?_take_of_lt hjk, List.getElem?_drop] at hj
      have := hown.cells (g := g) rfl (i2 + j) v hj
      rw [Addr.add_lit, Nat.zero_add] at this
      rw [Addr.add_lit]
      exact this
    · simp; omega
    · have hct : cur.toList.take n = xs := by simpa using ht
      have e1 : cur.toList.take i1 = xs.take i1 := by rw [← hct, List.take_take, Nat.min_eq_left (by omega)]
      have e2 : xs.drop (i1 + k) = (cur.toList.drop (i1 + k)).take (n - (i1 + k)) := by rw [← hct, List.drop_take]
      unfold moved
      rw [e1, e2, Nat.mul_one]
      have hlen : (xs.take i1 ++ (xs.drop i2).take k).length = i1 + k := by simp; omega
      rw [List.take_append, hlen, List.take_of_length_le (by omega)]

theorem step_copy_ownY {P : Program} {ops : Array Oper} {o : Oper} {a : Act} {w : World} {K : Act → World → Prop} {Q : Exit → Act → World → Prop} {E : Prop} (hgd : o.guard = none) (d s : Operand) (dT sT : TypeId)
    (ho : o.op = .call { callee := .builtin .copy, args := #[d, s], argTypes := #[dT, sT] }) (elem : TypeId) (hu : P.underlying dT = some (.slice elem)) (hsz : (P.info? elem).map (·.size) = some 1)
    (dp sp : Option Addr) (dLen dCap sLen sCap : Nat) (hd : a.eval d = .slice dp dLen dCap) (hs : a.eval s = .slice sp sLen sCap)
    (base g n cap i1 i2 k : Nat) (xs : List Value) (hown : w.ownsRow base elem 1 (.slice (some ⟨g, 0, none⟩) n cap) n xs) (h1 : i1 + dLen = n) (h2 : i2 + sLen = n) (hk : k = Nat.min sLen dLen)
    (hpos : 0 < k → dp = some ⟨g, i1, none⟩ ∧ sp = some ⟨g, i2, none⟩) (hone : ∀ u ∈ xs, u.oneCell' = true)
    (hK : ∀ w', Hid (w'.ownsRow base elem 1 (.slice (some ⟨g, 0, none⟩) n cap) n (moved xs i1 i2 k)) → w.grownBy w' (some g) → K (a.put o.dst (goInt k)) w') :
    if Region.wanted o (yielded ops a.tmps) = true then Oper.wp P o a w K Q else E := by
  have hw : Region.wanted o (yielded ops a.tmps) = true := by simp [Region.wanted, hgd]
  rw [if_pos hw]
  have hk1 : k ≤ sLen := by rw [hk]; exact Nat.min_le_left _ _
  have hk2 : k ≤ dLen := by rw [hk]; exact Nat.min_le_right _ _
  by_cases h0 : k = 0
  · have hrun := run_copy_none (P := P) w dT sT o.type elem dp sp dLen dCap sLen sCap hu hsz (by omega)
    unfold Oper.wp
    simp [execOp, ho, resolve, invoke, builtin, hd, hs, hrun, Result.andThen]
    have := hK w (by rw [h0]; show World.ownsRow _ _ _ _ _ _ _; unfold moved; simpa using hown) ⟨rfl, rfl, rfl, Nat.le_refl _, fun _ _ _ => rfl⟩
    rw [h0] at this
    exact this
  · obtain ⟨rfl, rfl⟩ := hpos (by omega)
    obtain ⟨cur, hg, hfit, hlen, hsrc, hown'⟩ := own_moved hown (i1 := i1) (i2 := i2) (k := k) (by omega) (by omega)
    have hrun := run_copy_row (P := P) w dT sT o.type elem g i1 dLen dCap ⟨g, i2, none⟩ sLen sCap cur elem ((xs.drop i2).take k) hu hsz hg (by rw [hlen, hk]) hsrc (by rw [hlen]; exact hfit) (fun u hu => hone u (List.mem_of_mem_drop (List.mem_of_mem_take hu)))
    rw [hlen] at hrun
    unfold Oper.wp
    simp [execOp, ho, resolve, invoke, builtin, hd, hs, hrun, Result.andThen]
    refine hK _ ?_ ⟨rfl, rfl, rfl, by simp [World.setRow], fun j _ hj => setRow_other w g j _ (fun e => hj (by rw [e]))⟩
    show World.ownsRow _ _ _ _ _ _ _
    simpa using hown'

/-- A row cut to its first m. -/
theorem own_cut {w : World} {base e n m cap g : Nat} {xs : List Value} (hown : w.ownsRow base e 1 (.slice (some ⟨g, 0, none⟩) n cap) n xs) (hm : m ≤ n) : w.ownsRow base e 1 (.slice (some ⟨g, 0, none⟩) m cap) m (xs.take m) := by
  have hl := hown.1
  rcases hown.2 with ⟨h, _⟩ | ⟨g', cap', cur, hv, hb, hg, hnc, hcm, hcs, ht⟩
  · simp at h
  · simp only [Value.slice.injEq, Option.some.injEq, Addr.mk.injEq, true_and, and_true] at hv
    obtain ⟨rfl, rfl⟩ := hv
    refine ⟨by simp; omega, .inr ⟨g, cap, cur, rfl, hb, hg, by omega, hcm, hcs, ?_⟩⟩
    rw [← ht, List.take_take]
    congr 1
    omega

/-- One place of a row set. -/
theorem own_set {w : World} {base e n cap g i : Nat} {xs : List Value} (hown : w.ownsRow base e 1 (.slice (some ⟨g, 0, none⟩) n cap) n xs) (u : Value) : (w.setCell ⟨g, i, none⟩ u).ownsRow base e 1 (.slice (some ⟨g, 0, none⟩) n cap) n (xs.set i u) := by
  have hl := hown.1
  rcases hown.2 with ⟨h, _⟩ | ⟨g', cap', cur, hv, hb, hg, hnc, hcm, hcs, ht⟩
  · simp at h
  · simp only [Value.slice.injEq, Option.some.injEq, Addr.mk.injEq, true_and, and_true] at hv
    obtain ⟨rfl, rfl⟩ := hv
    refine ⟨by simp; omega, .inr ⟨g, cap, cur.setIfInBounds i u, rfl, hb, ?_, hnc, hcm, by simpa using hcs, ?_⟩⟩
    · exact heap_setCell_same w g i cur e u hg
    · rw [← ht]
      simp [List.take_set]

end Go.Proofs.Ybulkbiy
