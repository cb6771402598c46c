import Derived.Test.YbulkbikPlainB
/-! The plain mathematics of 'numberTransactions': ranks. -/
namespace Go.Proofs.Ybulkbik

/-- The transactions among the first k operations, in the order in which they first appear. -/
def txsTo (T : Nat → Int) : Nat → List Int
  | 0 => []
  | k + 1 => if T k ∈ txsTo T k then txsTo T k else txsTo T k ++ [T k]

theorem txsTo_le (T : Nat → Int) (k : Nat) : (txsTo T k).length ≤ k := by
  induction k with
  | zero => simp [txsTo]
  | succ k ih =>
    unfold txsTo
    split
    · omega
    · simp; omega

theorem mem_txsTo (T : Nat → Int) (k : Nat) (t : Int) : t ∈ txsTo T k ↔ ∃ i, i < k ∧ T i = t := by
  induction k with
  | zero => simp [txsTo]
  | succ k ih =>
    unfold txsTo
    split
    · rename_i h
      rw [ih]
      constructor
      · rintro ⟨i, h1, h2⟩; exact ⟨i, by omega, h2⟩
      · rintro ⟨i, h1, h2⟩
        by_cases e : i = k
        · subst e; rw [← ih, ← h2]; exact h
        · exact ⟨i, by omega, h2⟩
    · rw [List.mem_append, ih]
      constructor
      · rintro (⟨i, h1, h2⟩ | h)
        · exact ⟨i, by omega, h2⟩
        · simp at h; exact ⟨k, by omega, h.symm⟩
      · rintro ⟨i, h1, h2⟩
        by_cases e : i = k
        · subst e; right; simp [h2]
        · left; exact ⟨i, by omega, h2⟩

theorem txsTo_nodup (T : Nat → Int) (k : Nat) : (txsTo T k).Nodup := by
  induction k with
  | zero => simp [txsTo]
  | succ k ih =>
    unfold txsTo
    split
    · exact ih
    · rename_i h
      rw [List.nodup_append]
      refine ⟨ih, by simp, ?_⟩
      intro a ha b hb
      simp at hb
      subst hb
      exact fun e => h (e ▸ ha)

theorem txsTo_prefix (T : Nat → Int) {k n : Nat} (h : k ≤ n) : txsTo T k <+: txsTo T n := by
  induction n with
  | zero => have : k = 0 := by omega
            subst this; exact List.prefix_refl _
  | succ n ih =>
    by_cases e : k = n + 1
    · subst e; exact List.prefix_refl _
    · refine (ih (by omega)).trans ?_
      rw [show txsTo T (n + 1) = if T n ∈ txsTo T n then txsTo T n else txsTo T n ++ [T n] from rfl]
      split
      · exact List.prefix_refl _
      · exact List.prefix_append _ _

/-- The number that operation i's transaction gets when it comes up is its place in the whole list. -/
theorem idxOf_txsTo (T : Nat → Int) {i n : Nat} (h : i < n) : (txsTo T i).idxOf (T i) = (txsTo T n).idxOf (T i) := by
  obtain ⟨r, hr⟩ := txsTo_prefix T (show i + 1 ≤ n by omega)
  rw [← hr]
  have hm : T i ∈ txsTo T (i + 1) := (mem_txsTo T _ _).2 ⟨i, by omega, rfl⟩
  rw [List.idxOf_append, if_pos hm]
  rw [show txsTo T (i + 1) = if T i ∈ txsTo T i then txsTo T i else txsTo T i ++ [T i] from rfl]
  split
  · rfl
  · rename_i hn
    rw [List.idxOf_append, if_neg hn, List.idxOf_eq_length hn]
    simp

theorem txsTo_firsts (o : BOps) (k : Nat) : txsTo o.T k = ((List.range k).filter (firstB o)).map o.T := by
  induction k with
  | zero => rfl
  | succ k ih =>
    rw [List.range_succ, List.filter_append, List.map_append, ← ih]
    rw [show txsTo o.T (k + 1) = if o.T k ∈ txsTo o.T k then txsTo o.T k else txsTo o.T k ++ [o.T k] from rfl]
    split
    · rename_i h
      obtain ⟨i, h1, h2⟩ := (mem_txsTo _ _ _).1 h
      have : firstB o k = false := by
        unfold firstB
        simp only [decide_eq_false_iff_not]
        exact fun hf => hf i h1 h2
      simp [this]
    · rename_i h
      have : firstB o k = true := by
        unfold firstB
        simp only [decide_eq_true_eq]
        exact fun k' hk' e => h ((mem_txsTo _ _ _).2 ⟨k', hk', e⟩)
      simp [this]

theorem rankB_txs (o : BOps) (t : Int) : rankB o t = (txsTo o.T o.n).countP (fun v => decide (v < t)) := by
  unfold rankB
  rw [txsTo_firsts, List.countP_map, List.countP_filter]
  congr 1
  funext k
  simp [Bool.and_comm]

theorem countP_range_lt (m r : Nat) (h : r ≤ m) : (List.range m).countP (fun x => decide (x < r)) = r := by
  induction m with
  | zero => have : r = 0 := by omega
            subst this; rfl
  | succ m ih =>
    rw [List.range_succ, List.countP_append]
    by_cases e : r = m + 1
    · subst e
      have : (List.range m).countP (fun x => decide (x < m + 1)) = (List.range m).length := by
        rw [List.countP_eq_length]
        intro a ha
        simp at ha ⊢
        omega
      rw [this]
      simp
    · rw [ih (by omega)]
      simp
      omega

theorem nodup_inj {α : Type} {l : List α} (h : l.Nodup) {i j : Nat} (hi : i < l.length) (hj : j < l.length) (e : l[i] = l[j]) : i = j := by
  have hp := List.pairwise_iff_getElem.1 h
  by_cases h1 : i < j
  · exact absurd e (hp i j hi hj h1)
  · by_cases h2 : j < i
    · exact absurd e.symm (hp j i hj hi h2)
    · omega

/-- A list without doubles, put in ascending order by P: the place of an element counts the smaller ones. -/
theorem rank_of_perm (L : List Int) (hL : L.Nodup) (P : List Nat) (hP : P.Perm (List.range L.length))
    (hs : ∀ i j, i < j → j < L.length → L.getD (P.getD i 0) 0 ≤ L.getD (P.getD j 0) 0) (r : Nat) (hr : r < L.length) :
    L.countP (fun v => decide (v < L.getD (P.getD r 0) 0)) = r := by
  have hlen : P.length = L.length := by rw [hP.length_eq]; simp
  have hPn : P.Nodup := (hP.nodup_iff).2 List.nodup_range
  have hlt : ∀ i, i < L.length → P.getD i 0 < L.length := fun i hi => by
    have : P.getD i 0 ∈ P := by
      rw [List.getD_eq_getElem?_getD, List.getElem?_eq_getElem (by omega)]
      simp
    have := hP.mem_iff.1 this
    simpa using this
  have hinj : ∀ i j, i < L.length → j < L.length → L.getD (P.getD i 0) 0 = L.getD (P.getD j 0) 0 → i = j := fun i j hi hj e => by
    have h1 := hlt i hi
    have h2 := hlt j hj
    rw [List.getD_eq_getElem?_getD, List.getD_eq_getElem?_getD (l := L), List.getElem?_eq_getElem h1, List.getElem?_eq_getElem h2] at e
    simp only [Option.getD_some] at e
    have e2 := nodup_inj hL _ _ e
    rw [List.getD_eq_getElem?_getD, List.getD_eq_getElem?_getD (l := P), List.getElem?_eq_getElem (show i < P.length by omega), List.getElem?_eq_getElem (show j < P.length by omega)] at e2
    simp only [Option.getD_some] at e2
    exact nodup_inj hPn _ _ e2
  have e1 : L = (List.range L.length).map (fun j => L.getD j 0) := by
    apply List.ext_getElem
    · simp
    · intro i h1 h2
      simp [h1]
  have e2 : P = (List.range L.length).map (fun j => P.getD j 0) := by
    apply List.ext_getElem
    · simp [hlen]
    · intro i h1 h2
      simp [h1]
  have hperm : L.Perm ((List.range L.length).map (fun r' => L.getD (P.getD r' 0) 0)) := by
    have h1 : ((List.range L.length).map (fun j => L.getD j 0)).Perm (P.map (fun j => L.getD j 0)) := (hP.map _).symm
    rw [← e1] at h1
    refine h1.trans ?_
    conv => lhs; rw [e2]
    rw [List.map_map]
    exact List.Perm.refl _
  rw [hperm.countP_eq, List.countP_map]
  refine (List.countP_congr ?_).trans (countP_range_lt L.length r (by omega))
  intro x hx
  simp at hx
  simp only [Function.comp, decide_eq_true_eq]
  constructor
  · intro h
    by_cases h1 : x < r
    · exact h1
    · exfalso
      by_cases h2 : x = r
      · subst h2; omega
      · have := hs r x (by omega) hx
        omega
  · intro h
    have h1 := hs x r h hr
    by_cases h2 : L.getD (P.getD x 0) 0 = L.getD (P.getD r 0) 0
    · have := hinj x r hx hr h2
      omega
    · omega

end Go.Proofs.Ybulkbik
