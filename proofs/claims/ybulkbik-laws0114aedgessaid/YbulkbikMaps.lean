import Derived.Test.YbulkbikLeaf
import Derived.Maps.OwnSet
namespace Go.Proofs.Ybulkbik
open Go.RowKit Go.Maps

/-! A map of the call's own, from keys to int32: what it holds, as a plain function of the key. -/

theorem zero21 (w : World) : (zeroValue 21).run Yba.prog w = .ok (.int .i32 0) w := by kernel_rfl

def NumMap (w : World) (k : TypeId) (b n : Nat) (f : Lit → Option Int) : Prop :=
  ∃ D : DataW Unit, w.ownsMap Yba.prog k (plainElem Yba.prog 21) b n D ∧ ∀ kl, Maps.has D kl = (f kl).isSome ∧ (∀ v, f kl = some v → D.atKey kl (.lit (.int .i32 0)) = .lit (.int .i32 v))

/-- f' is f but for the key kl, at which it gives v. -/
def Upd (f : Lit → Option Int) (kl : Lit) (v : Int) (f' : Lit → Option Int) : Prop := f' kl = some v ∧ ∀ x, x ≠ kl → f' x = f x

theorem NumMap.lt {w : World} {k b n f} (h : NumMap w k b n f) : b < w.heap.size := by
  obtain ⟨D, h1, _⟩ := h
  exact h1.lt

theorem NumMap.mono {w : World} {k b n m f} (h : NumMap w k b n f) (hn : n ≤ m) : NumMap w k b m f := by
  obtain ⟨D, h1, h2⟩ := h
  exact ⟨D, h1.mono hn, h2⟩

theorem NumMap.made (w : World) (k : TypeId) : NumMap (w.alloc (.map #[] 0)) k w.heap.size 0 (fun _ => none) :=
  ⟨_, World.ownsMap_made w _ _ _, fun kl => ⟨rfl, fun v h => by cases h⟩⟩

/-- It hangs on its own block alone. -/
theorem NumMap.of_block {w w' : World} {k b n f} (h : NumMap w k b n f) (hb : w'.heap[b]? = w.heap[b]?) : NumMap w' k b n f := by
  obtain ⟨D, ⟨es, clock, h1, h2⟩, h3⟩ := h
  exact ⟨D, ⟨es, clock, hb.trans h1, h2⟩, h3⟩

theorem NumMap.look {w : World} {k t b n f} (h : NumMap w k b n f) (K : Keyed Yba.prog k) (ht : Yba.prog.underlying t = some (.map k 21)) {key : Value} {kl : Lit} (hkey : keyOf Yba.prog k key = some kl) :
    ∃ c, (Instr.lookup t (.map (some b)) key true).run Yba.prog w = .ok (.tuple #[.int .i32 c, .bool (f kl).isSome]) w ∧ ∀ v, f kl = some v → c = v := by
  obtain ⟨D, h1, h2⟩ := h
  obtain ⟨v, ps, hrun, hv⟩ := h1.look_ok K ht (zero21 w) (plainElem_int Yba.underlying21 (by decide)) hkey
  obtain ⟨c, rfl, hc, hwc⟩ := plainElem_int_inv Yba.underlying21 hv
  refine ⟨c, by rw [hrun, (h2 kl).1], fun v' hv' => ?_⟩
  have e := (h2 kl).2 v' hv'
  simp only [Prod.mk.injEq] at hc
  rw [e] at hc
  have := hc.1
  simp at this
  exact this.symm

theorem NumMap.store {w : World} {k t b n f} (h : NumMap w k b n f) (K : Keyed Yba.prog k) (ht : Yba.prog.underlying t = some (.map k 21)) (hn : n < maxLen) {key : Value} {kl : Lit} (hkey : keyOf Yba.prog k key = some kl) {v : Int} (hv : (Lit.int .i32 v).wf = true) :
    ∃ w', (Instr.mapUpdate t (.map (some b)) key (.int .i32 v)).run Yba.prog w = .ok () w' ∧ (∀ f', Upd f kl v f' → NumMap w' k b (n + 1) f') ∧ w.grownBy w' (some b) := by
  obtain ⟨D, h1, h2⟩ := h
  obtain ⟨w', hrun, ho, hg⟩ := h1.update K ht hn hkey (plainElem_int Yba.underlying21 hv)
  refine ⟨w', hrun, fun f' hf' => ⟨_, ho, fun x => ?_⟩, hg⟩
  have hk := K.key hkey
  by_cases hx : x = kl
  · subst hx
    refine ⟨by rw [has_put_same h1.isMap hk, hf'.1]; rfl, fun v' hv' => ?_⟩
    rw [hf'.1] at hv'
    simp at hv'
    subst hv'
    exact atKey_put_same h1.isMap hk _ _
  · refine ⟨by rw [has_put_other hx, (h2 x).1, hf'.2 x hx], fun v' hv' => ?_⟩
    rw [hf'.2 x hx] at hv'
    rw [atKey_put_other hx]
    exact (h2 x).2 v' hv'

theorem wf_u64 {a : Int} (h0 : 0 ≤ a) (h1 : a < 18446744073709551616) : (Lit.int .u64 a).wf = true := by
  simp [Lit.wf, IntKind.min, IntKind.max, IntKind.bits, IntKind.signed]; omega
theorem wf_i32 {a : Int} (h0 : -2147483648 ≤ a) (h1 : a < 2147483648) : (Lit.int .i32 a).wf = true := by
  simp [Lit.wf, IntKind.min, IntKind.max, IntKind.bits, IntKind.signed]; omega

theorem K114 : Keyed Yba.prog 114 := int_keyed Yba.underlying114
theorem K9 : Keyed Yba.prog 9 := string_keyed Yba.underlying9
theorem K45 : Keyed Yba.prog 45 := int_keyed Yba.underlying45

theorem key114 (a : Int) (h0 : 0 ≤ a) (h1 : a < 18446744073709551616) : keyOf Yba.prog 114 (.int .u64 a) = some (.int .u64 a) :=
  keyOf_int_mk Yba.underlying114 (wf_u64 h0 h1)

set_option maxHeartbeats 400000 in
theorem item40_hit (b n : Nat) (f : Lit → Option Int) (a v : Int) (p : Addr) (w : World) (hm : NumMap w 114 b n f) (h0 : 0 ≤ a) (h1 : a < 18446744073709551616) (hf : f (.int .u64 a) = some v) :
    Calls Yba.prog 40 #[.map (some b), .int .u64 a, .pointer (some p)] w fun e w' => e = .returned (.int .i32 v) ∧ w' = w := by
  obtain ⟨c, hrun, hc⟩ := hm.look K114 Yba.underlying112 (key114 a h0 h1)
  have := hc v hf
  subst this
  rw [hf] at hrun
  simp at hrun
  go_enter Yba.func40, Yba.ntmps40
  go_wp2
  go_ret
  exact ⟨rfl, rfl⟩

set_option maxHeartbeats 400000 in
theorem item40_miss (b n : Nat) (f : Lit → Option Int) (a c : Int) (cb : Nat) (w : World) (hm : NumMap w 114 b n f) (h0 : 0 ≤ a) (h1 : a < 18446744073709551616) (hf : f (.int .u64 a) = none)
    (hc0 : 0 ≤ c) (hc1 : c ≤ 1000000) (hn : n ≤ 1000000) (hcell : w.cell? ⟨cb, 0, none⟩ = some (.int .i64 c)) (hfr : w.frozen? ⟨cb, 0, none⟩ = false) (hne : cb ≠ b) :
    Calls Yba.prog 40 #[.map (some b), .int .u64 a, .pointer (some ⟨cb, 0, none⟩)] w fun e w' => e = .returned (.int .i32 c) ∧
      ∃ w1, (∀ f', Upd f (.int .u64 a) c f' → NumMap w1 114 b (n + 1) f') ∧ w.grownBy w1 (some b) ∧ w' = w1.setCell ⟨cb, 0, none⟩ (.int .i64 (c + 1)) := by
  obtain ⟨c0, hrun, _⟩ := hm.look K114 Yba.underlying112 (key114 a h0 h1)
  rw [hf] at hrun
  simp at hrun
  obtain ⟨w1, hst, hm1, hg1⟩ := hm.store K114 Yba.underlying112 (by unfold maxLen; omega) (key114 a h0 h1) (v := c) (wf_i32 (by omega) (by omega))
  have hcell1 : w1.cell? ⟨cb, 0, none⟩ = some (.int .i64 c) := hg1.cell hcell (by simpa using hne)
  have hfr1 : w1.frozen? ⟨cb, 0, none⟩ = false := by
    rw [World.frozen?_of_block (w := w) (hg1.block cb (World.block_lt_of_cell? w _ hcell) (by simpa using hne))]; exact hfr
  have Hm1 : Hid (∀ f', Upd f (.int .u64 a) c f' → NumMap w1 114 b (n + 1) f') := hm1
  have Hg1 : Hid (w.grownBy w1 (some b)) := hg1
  clear hm1 hg1
  go_enter Yba.func40, Yba.ntmps40
  go_wp2
  go_ret
  exact ⟨rfl, w1, Hm1.out, Hg1.out, rfl⟩

theorem key9 (a : ByteArray) (h : a.size ≤ maxLen) : keyOf Yba.prog 9 (.string a) = some (.string a.data.toList) :=
  WideMaps.keyOf_string_mk Yba.underlying9 h

set_option maxHeartbeats 400000 in
theorem item41_hit (b n : Nat) (f : Lit → Option Int) (a : ByteArray) (v : Int) (p : Addr) (w : World) (hm : NumMap w 9 b n f) (h0 : a.size ≤ maxLen) (hf : f (.string a.data.toList) = some v) :
    Calls Yba.prog 41 #[.map (some b), .string a, .pointer (some p)] w fun e w' => e = .returned (.int .i32 v) ∧ w' = w := by
  obtain ⟨c, hrun, hc⟩ := hm.look K9 Yba.underlying113 (key9 a h0)
  have := hc v hf
  subst this
  rw [hf] at hrun
  simp at hrun
  go_enter Yba.func41, Yba.ntmps41
  go_wp2
  go_ret
  exact ⟨rfl, rfl⟩

set_option maxHeartbeats 400000 in
theorem item41_miss (b n : Nat) (f : Lit → Option Int) (a : ByteArray) (c : Int) (cb : Nat) (w : World) (hm : NumMap w 9 b n f) (h0 : a.size ≤ maxLen) (hf : f (.string a.data.toList) = none)
    (hc0 : 0 ≤ c) (hc1 : c ≤ 1000000) (hn : n ≤ 1000000) (hcell : w.cell? ⟨cb, 0, none⟩ = some (.int .i64 c)) (hfr : w.frozen? ⟨cb, 0, none⟩ = false) (hne : cb ≠ b) :
    Calls Yba.prog 41 #[.map (some b), .string a, .pointer (some ⟨cb, 0, none⟩)] w fun e w' => e = .returned (.int .i32 c) ∧
      ∃ w1, (∀ f', Upd f (.string a.data.toList) c f' → NumMap w1 9 b (n + 1) f') ∧ w.grownBy w1 (some b) ∧ w' = w1.setCell ⟨cb, 0, none⟩ (.int .i64 (c + 1)) := by
  obtain ⟨c0, hrun, _⟩ := hm.look K9 Yba.underlying113 (key9 a h0)
  rw [hf] at hrun
  simp at hrun
  obtain ⟨w1, hst, hm1, hg1⟩ := hm.store K9 Yba.underlying113 (by unfold maxLen; omega) (key9 a h0) (v := c) (wf_i32 (by omega) (by omega))
  have hcell1 : w1.cell? ⟨cb, 0, none⟩ = some (.int .i64 c) := hg1.cell hcell (by simpa using hne)
  have hfr1 : w1.frozen? ⟨cb, 0, none⟩ = false := by
    rw [World.frozen?_of_block (w := w) (hg1.block cb (World.block_lt_of_cell? w _ hcell) (by simpa using hne))]; exact hfr
  have Hm1 : Hid (∀ f', Upd f (.string a.data.toList) c f' → NumMap w1 9 b (n + 1) f') := hm1
  have Hg1 : Hid (w.grownBy w1 (some b)) := hg1
  clear hm1 hg1
  go_enter Yba.func41, Yba.ntmps41
  go_wp2
  go_ret
  exact ⟨rfl, w1, Hm1.out, Hg1.out, rfl⟩

end Go.Proofs.Ybulkbik
