import Derived.Test.YbulkbiyInsNew
import Derived.Test.YbulkbiyRw
/-! insert (11) at an inner node. -/
namespace Go.Proofs.Ybulkbiy
attribute [local go_sem ↓] Go.wp_at_zero Go.wp_at_succ
open Go.RowKit Go.Maps Go.Sort

def InsRes (w0 : World) (D : List Nat) (C : Nat → Nd) (P N : Nat → Option Nat) (W : World) (wd d b : Nat) (k : Int) (A B : List Nat) (e : Ending) (w' : World) : Prop :=
  (k ∈ elems C d b ∧ e = .returned (.tuple #[.bool false, .pointer none]) ∧ St w0 D C W D C P N w') ∨
  (k ∉ elems C d b ∧ ∃ up D' C' P' N', e = .returned (.tuple #[.bool true, ptrV up]) ∧ InsPost w0 D C W wd d b k A B up D' C' P' N' w')

section
variable {w0 : World} {D : List Nat} {C : Nat → Nd} {P N : Nat → Option Nat} {W : World}

theorem Rep.kidcell (h : Rep w0 D C P N W) {b g n c : Nat} (hb : b ∈ D) (hch : (C b).ch = .slice (some ⟨g, 0, none⟩) n c) (hn : (C b).ks.length = n) {i : Nat} (hi : i < n) : W.cell? ⟨g, i, none⟩ = some (.pointer (some ⟨(C b).ks[i]!, 0, none⟩)) := by
  have hk := (h.at_ b hb).kids
  rw [hch, hn] at hk
  exact (own_at hk (i := i) (u := ptrV (some (C b).ks[i]!)) (by rw [List.getElem?_map, List.getElem?_eq_getElem (by omega), getElem!_pos _ i (by omega)]; rfl)).1

theorem Rep.ficell (h : Rep w0 D C P N W) {x : Nat} (hx : x ∈ D) : W.cell? ⟨x, 3, none⟩ = some (.int .u64 (C x).fi) := (h.at_ x hx).row.cell (i := 3) (by omega)

/-- Another node's row while one inner node is at work. -/
theorem IW.far (h : Rep w0 D C P N W) {b : Nat} (hb : b ∈ D) {nu va rc ch : Value} {m : Nat} {cs : List Value} {fi sz : Int} {p n : Option Nat} {w : World}
    (l : IW w0.heap.size W (b :: (C b).ch.ownBlock.toList) b nu va rc ch m cs fi sz p n w) {x : Nat} (hx : x ∈ D) (hne : x ≠ b) : w.rowIs x 32 7 (ndCell (C x).nu (C x).va (C x).ch (C x).fi (C x).sz (P x) (N x)) := by
  have nx := h.at_ x hx
  refine nx.row.of_block (l.keep x nx.row.lt (fun hm => ?_))
  refine h.apart x hx b hb hne x (by simp [blks]) ?_
  simp only [blks, List.mem_cons, List.mem_append] at hm ⊢
  exact hm.elim .inl (fun e => .inr (.inr e))

theorem node_blk (h : Rep w0 D C P N W) {x : Nat} (hx : x ∈ D) : x < W.heap.size := (h.at_ x hx).row.lt

end

/-- A number that is there already, at a leaf. -/
theorem ins_leaf_old {w0 : World} {D : List Nat} {C : Nat → Nd} {P N : Nat → Option Nat} {W : World} {wd b : Nat} {A B : List Nat} (h : Rep w0 D C P N W) (pre : Pre D C P N wd 0 b A B) (hwd : 2 ≤ wd ∧ wd ≤ 99) {k : Int} (hk : k ∈ (C b).xs) :
    Calls Yba.prog 11 #[.pointer (some ⟨b, 0, none⟩), .int .u64 k, .int .u64 (vx k), .int .i64 (wd : Nat)] W fun e w' => e = .returned (.tuple #[.bool false, .pointer none]) ∧ St w0 D C W D C P N w' := by
  refine (ins_old (h.at_ b (pre.idD b (by simp [ids]))) pre.wf.1 pre.srt (by have := pre.wf.2.2.1; omega) k (vx k) (wd : Nat) hk).mono ?_
  rintro e w' ⟨rfl, hb⟩
  exact ⟨rfl, h.below hb⟩

theorem ins_leaf {w0 : World} {D : List Nat} {C : Nat → Nd} {P N : Nat → Option Nat} {W : World} {wd b : Nat} {A B : List Nat} (h : Rep w0 D C P N W) (pre : Pre D C P N wd 0 b A B) (hwd : 2 ≤ wd ∧ wd ≤ 99) (k : Int) :
    Calls Yba.prog 11 #[.pointer (some ⟨b, 0, none⟩), .int .u64 k, .int .u64 (vx k), .int .i64 (wd : Nat)] W (InsRes w0 D C P N W wd 0 b k A B) := by
  by_cases hk : k ∈ (C b).xs
  · refine (ins_leaf_old h pre hwd hk).mono ?_
    rintro e w' ⟨rfl, st⟩
    exact .inl ⟨hk, rfl, st⟩
  · refine (ins_new w0 D C P N W wd b A B h pre hwd k hk).mono ?_
    rintro e w' ⟨up, D', C', P', N', rfl, q⟩
    exact .inr ⟨hk, up, D', C', P', N', rfl, q⟩

end Go.Proofs.Ybulkbiy
