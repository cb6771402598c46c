import Derived.Test.YbulkbiyInsJ
/-! insert (11), at any depth; the set of the numbers, plainly. -/
namespace Go.Proofs.Ybulkbiy
open Go.RowKit Go.Maps Go.Sort

theorem ins11 (w0 : World) (wd : Nat) (hwd : 2 ≤ wd ∧ wd ≤ 99) (k : Int) : ∀ (d : Nat) (D : List Nat) (C : Nat → Nd) (P N : Nat → Option Nat) (W : World) (b : Nat) (A B : List Nat), Rep w0 D C P N W → Pre D C P N wd d b A B → (d = 0 ∨ elems C d b ≠ []) → (elems C d b).length ≤ 1000 →
    Calls Yba.prog 11 #[.pointer (some ⟨b, 0, none⟩), .int .u64 k, .int .u64 (vx k), .int .i64 (wd : Nat)] W (InsRes w0 D C P N W wd d b k A B)
  | 0, D, C, P, N, W, b, A, B, h, pre, _, _ => ins_leaf h pre hwd k
  | d + 1, D, C, P, N, W, b, A, B, h, pre, hne, hl => by
    have hne' := hne.resolve_left (by omega)
    have hks : (C b).ks ≠ [] := fun e => hne' (by simp [elems, e])
    have IH := fun (D : List Nat) (C : Nat → Nd) (P N : Nat → Option Nat) (W : World) (b : Nat) (A B : List Nat) (h : Rep w0 D C P N W) (pre : Pre D C P N wd d b A B) (hne : elems C d b ≠ []) (hl : (elems C d b).length ≤ 1000) => ins11 w0 wd hwd k d D C P N W b A B h pre (.inr hne) hl
    by_cases hk : k ∈ elems C (d + 1) b
    · refine (ins_inner_old w0 D C P N W wd d b A B h pre hwd k hks hl IH hk).mono ?_
      rintro e w' ⟨rfl, st⟩
      exact .inl ⟨hk, rfl, st⟩
    · refine (ins_inner_new w0 D C P N W wd d b A B h pre hwd k hks hl IH hk).mono ?_
      rintro e w' ⟨up, D', C', P', N', rfl, q⟩
      exact .inr ⟨hk, up, D', C', P', N', rfl, q⟩

def addK (S : List Int) (k : Int) : List Int := if k ∈ S then S else insK k S

def setI (K : Nat → Int) : Nat → List Int
  | 0 => []
  | n + 1 => addK (setI K n) (K n)

theorem addK_len (S : List Int) (k : Int) : (addK S k).length ≤ S.length + 1 := by
  unfold addK
  split
  · omega
  · rw [insK_len]; omega

theorem addK_mem (S : List Int) (k x : Int) : x ∈ addK S k ↔ x = k ∨ x ∈ S := by
  unfold addK
  split
  · rename_i h
    constructor
    · exact .inr
    · rintro (rfl | h') <;> assumption
  · exact insK_mem x

theorem addK_sorted {S : List Int} (h : S.Pairwise (· < ·)) (k : Int) : (addK S k).Pairwise (· < ·) := by
  unfold addK
  split
  · exact h
  · rename_i hk
    exact insK_sorted h hk

theorem setI_sorted (K : Nat → Int) : ∀ n, (setI K n).Pairwise (· < ·)
  | 0 => List.Pairwise.nil
  | n + 1 => addK_sorted (setI_sorted K n) _

theorem setI_len (K : Nat → Int) : ∀ n, (setI K n).length ≤ n
  | 0 => Nat.le_refl _
  | n + 1 => by
    have h1 := setI_len K n
    have h2 := addK_len (setI K n) (K n)
    show (addK (setI K n) (K n)).length ≤ n + 1
    omega

theorem setI_mem (K : Nat → Int) : ∀ (n : Nat) (x : Int), x ∈ setI K n ↔ ∃ i, i < n ∧ K i = x
  | 0, x => by simp [setI]
  | n + 1, x => by
    show x ∈ addK (setI K n) (K n) ↔ _
    rw [addK_mem, setI_mem K n x]
    constructor
    · rintro (rfl | ⟨i, hi, e⟩)
      · exact ⟨n, by omega, rfl⟩
      · exact ⟨i, by omega, e⟩
    · rintro ⟨i, hi, e⟩
      by_cases h : i = n
      · subst h; exact .inl e.symm
      · exact .inr ⟨i, by omega, e⟩

theorem sorted_ext : ∀ {a b : List Int}, a.Pairwise (· < ·) → b.Pairwise (· < ·) → (∀ x, x ∈ a ↔ x ∈ b) → a = b
  | [], [], _, _, _ => rfl
  | [], y :: b, _, _, h => absurd ((h y).2 (by simp)) (by simp)
  | x :: a, [], _, _, h => absurd ((h x).1 (by simp)) (by simp)
  | x :: a, y :: b, ha, hb, h => by
    rw [List.pairwise_cons] at ha hb
    have exy : x = y := by
      have h1 := (h x).1 (by simp)
      have h2 := (h y).2 (by simp)
      rcases List.mem_cons.1 h1 with e | h1
      · exact e
      · rcases List.mem_cons.1 h2 with e | h2
        · exact e.symm
        · have := hb.1 x h1
          have := ha.1 y h2
          omega
    subst exy
    rw [sorted_ext ha.2 hb.2 (fun z => ?_)]
    have hz := h z
    simp only [List.mem_cons] at hz
    constructor
    · intro hm
      rcases hz.1 (.inr hm) with rfl | h2
      · exact absurd (ha.1 z hm) (by omega)
      · exact h2
    · intro hm
      rcases hz.2 (.inr hm) with rfl | h2
      · exact absurd (hb.1 z hm) (by omega)
      · exact h2

theorem compact_facts (d : Array Int) (hs : ∀ i j, i ≤ j → j < d.size → d[i]! ≤ d[j]!) : ∀ m, m ≤ d.size → (Lib.compactUpTo d m).Pairwise (· < ·) ∧ ∀ x, x ∈ Lib.compactUpTo d m ↔ ∃ j, j < m ∧ d[j]! = x
  | 0, _ => by simp [Lib.compactUpTo]
  | m + 1, hm => by
    obtain ⟨h1, h2⟩ := compact_facts d hs m (by omega)
    rw [Lib.compactUpTo_succ]
    by_cases hk : m = 0 ∨ d[m]! ≠ d[m - 1]!
    · have hk' : Lib.keeps d m = true := by
        rcases hk with rfl | h
        · exact Lib.keeps_lt_one d 0 (by omega)
        · exact Lib.keeps_pos h
      rw [if_pos hk']
      constructor
      · rw [List.pairwise_append]
        refine ⟨h1, by simp, fun x hx y hy => ?_⟩
        simp only [List.mem_singleton] at hy
        subst hy
        obtain ⟨j, hj, rfl⟩ := (h2 x).1 hx
        have a1 := hs j (m - 1) (by omega) (by omega)
        have a2 := hs (m - 1) m (by omega) (by omega)
        rcases hk with rfl | h
        · omega
        · omega
      · intro x
        rw [List.mem_append, h2, List.mem_singleton]
        constructor
        · rintro (⟨j, hj, e⟩ | rfl)
          · exact ⟨j, by omega, e⟩
          · exact ⟨m, by omega, rfl⟩
        · rintro ⟨j, hj, e⟩
          by_cases hjm : j = m
          · subst hjm; exact .inr e.symm
          · exact .inl ⟨j, by omega, e⟩
    · have hm0 : 0 < m := by omega
      have he : d[m]! = d[m - 1]! := by
        by_cases e : d[m]! = d[m - 1]!
        · exact e
        · exact absurd (.inr e) hk
      rw [if_neg (by rw [Lib.keeps_neg hm0 he]; simp), List.append_nil]
      refine ⟨h1, fun x => ?_⟩
      rw [h2]
      constructor
      · rintro ⟨j, hj, e⟩; exact ⟨j, by omega, e⟩
      · rintro ⟨j, hj, e⟩
        by_cases hjm : j = m
        · subst hjm; exact ⟨j - 1, by omega, by rw [← he]; exact e⟩
        · exact ⟨j, by omega, e⟩

theorem setL_eq (K : Nat → Int) (n : Nat) : setL K n = setI K n := by
  have hp : (((List.range n).map K).mergeSort fun x y => decide (x ≤ y)).Perm ((List.range n).map K) := List.mergeSort_perm _ _
  have hs : (((List.range n).map K).mergeSort fun x y => decide (x ≤ y)).Pairwise (fun x y => decide (x ≤ y) = true) := List.pairwise_mergeSort (fun a b c h1 h2 => by simp at *; omega) (fun a b => by simp; omega) _
  unfold setL Lib.compact
  generalize (((List.range n).map K).mergeSort fun x y => decide (x ≤ y)) = l at hp hs
  obtain ⟨h1, h2⟩ := compact_facts l.toArray (fun i j hij hj => by
    have hj' : j < l.length := by simpa using hj
    rw [getElem!_pos l.toArray i (by simp; omega), getElem!_pos l.toArray j hj]
    by_cases e : i = j
    · subst e; exact Int.le_refl _
    · have := List.pairwise_iff_getElem.1 hs i j (by omega) hj' (by omega)
      simpa using this) l.length (by simp)
  refine sorted_ext h1 (setI_sorted K n) (fun x => ?_)
  rw [h2, setI_mem]
  constructor
  · rintro ⟨j, hj, e⟩
    have hm : x ∈ l := by rw [← e, getElem!_pos l.toArray j (by simpa using hj)]; simp
    obtain ⟨i, hi, e2⟩ := List.mem_map.1 (hp.mem_iff.1 hm)
    exact ⟨i, List.mem_range.1 hi, e2⟩
  · rintro ⟨i, hi, e⟩
    have hm : x ∈ l := hp.mem_iff.2 (List.mem_map.2 ⟨i, List.mem_range.2 hi, e⟩)
    obtain ⟨j, hj, e2⟩ := List.mem_iff_getElem.1 hm
    exact ⟨j, hj, by rw [getElem!_pos l.toArray j (by simpa using hj)]; simpa using e2⟩

end Go.Proofs.Ybulkbiy
