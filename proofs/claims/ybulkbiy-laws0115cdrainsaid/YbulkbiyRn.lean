import Derived.Test.YbulkbiyRr
/-! insert (11), region 13: the new leaf of the upper half. -/
namespace Go.Proofs.Ybulkbiy
attribute [local go_sem ↓] Go.wp_at_zero Go.wp_at_succ
open Go.RowKit Go.Maps Go.Sort

theorem own_news {w : World} {base e n cap g : Nat} {xs : List Value} (h : w.ownsRow base e 1 (.slice (some ⟨g, 0, none⟩) n cap) n xs) (o : Nat) : ∀ (j : Nat) (u : Value), (xs.drop o)[j]? = some u → w.cell? ((⟨g, o, none⟩ : Addr).add j) = some u := by
  intro j u hj
  rw [List.getElem?_drop] at hj
  have := h.cells (g := g) rfl (o + j) u hj
  rw [Addr.add_lit, Nat.zero_add] at this
  rw [Addr.add_lit]
  exact this

theorem below_grown {w w' : World} (h : w.grownBy w' none) : Below w.heap.size w w' := ⟨h.os, h.tape, h.output, h.size, fun k hk => h.block k hk (by simp)⟩

theorem u64_one (xs : List Int) : ∀ u ∈ xs.map (Value.int .u64), u.oneCell' = true := fun u hu => by
  obtain ⟨x, _, rfl⟩ := List.mem_map.1 hu
  rfl
theorem u64_one2 (xs : List Int) : ∀ u ∈ xs.map (fun x => Value.int .u64 (vx x)), u.oneCell' = true := fun u hu => by
  obtain ⟨x, _, rfl⟩ := List.mem_map.1 hu
  rfl
theorem drop_one {xs : List Value} (h : ∀ u ∈ xs, u.oneCell' = true) (o : Nat) : ∀ u ∈ xs.drop o, u.oneCell' = true := fun u hu => h u (List.mem_of_mem_drop hu)

/-- The new leaf, made of two new arrays and a row. -/
theorem new_leaf {w0 : World} {D : List Nat} {C : Nat → Nd} {P N : Nat → Option Nat} {w1 wa wb wc : World} (hR : Rep w0 D C P N w1) {nu va : Value} {X : List Int} {m1 m2 : Nat} {ns vs : List Value} {sz : Int} (ha : Below w1.heap.size w1 wa) (hn : wb.ownsRow w0.heap.size 23 1 nu m1 ns) (hg1 : wa.grownBy wb none) (hat1 : nu.ownBlock = none ∨ nu.ownBlock = some wa.heap.size)
    (hv : wc.ownsRow w0.heap.size 23 1 va m2 vs) (hg2 : wb.grownBy wc none) (hat2 : va.ownBlock = none ∨ va.ownBlock = some wb.heap.size) (e1 : m1 = X.length) (e2 : m2 = X.length) (hns : ns = X.map (Value.int .u64)) (hvs : vs = X.map (fun x => Value.int .u64 (vx x))) :
    St w0 D C w1 (wc.heap.size :: D) (upd C wc.heap.size ⟨nu, va, .slice none 0 0, X, [], 0, sz⟩) (upd P wc.heap.size none) (upd N wc.heap.size none) (wc.alloc (.cells #[nu, va, .slice none 0 0, .int .u64 0, .int .i64 sz, .pointer none, .pointer none] 32)) := by
  subst e1 e2 hns hvs
  have s1 := ha.size
  have s2 := hg1.size
  have s3 := hg2.size
  have hBc : Below w1.heap.size w1 wc := (ha.trans ((below_grown hg1).mono s1)).trans ((below_grown hg2).mono (by omega))
  have hwz : w0.heap.size ≤ w1.heap.size := hR.bel.size
  have l1 : ∀ k, nu.ownBlock = some k → w1.heap.size ≤ k ∧ k < wb.heap.size := fun k hk => ⟨by rcases hat1 with e | e <;> rw [e] at hk <;> cases hk; exact s1, (hn.lt k hk).2⟩
  have l2 : ∀ k, va.ownBlock = some k → wb.heap.size ≤ k ∧ k < wc.heap.size := fun k hk => ⟨by rcases hat2 with e | e <;> rw [e] at hk <;> cases hk; exact Nat.le_refl _, (hv.lt k hk).2⟩
  refine hR.grow ⟨?_, ?_, ?_, ?_⟩ ?_ ?_ ?_ ?_ ?_
  · refine (World.rowIs_alloc wc #[nu, va, .slice none 0 0, .int .u64 0, .int .i64 sz, .pointer none, .pointer none] 32 (ndCell nu va (.slice none 0 0) 0 sz none none) (fun i hi => ?_))
    have hi' : i < 7 := hi
    match i, hi' with
    | 0, _ => rfl
    | 1, _ => rfl
    | 2, _ => rfl
    | 3, _ => rfl
    | 4, _ => rfl
    | 5, _ => rfl
    | 6, _ => rfl
  · exact own_same hn (fun k hk => (Below.heap_alloc _ _ _ (Nat.lt_of_lt_of_le (l1 k hk).2 s3)).trans (hg2.block k (l1 k hk).2 (by simp)))
  · exact own_same hv (fun k hk => Below.heap_alloc _ _ _ (l2 k hk).2)
  · exact World.ownsRow_nil _ _ _ _
  · exact (hR.bel.trans (hBc.mono hwz)).alloc (by omega) _
  · simp; omega
  · intro k hk
    exact (Below.heap_alloc _ _ _ (by omega)).trans (hBc.block k hk)
  · intro k hk
    simp only [blks, List.mem_cons, List.mem_append, Option.mem_toList] at hk
    rcases hk with rfl | (hk | hk) | hk
    · omega
    · exact (l1 k hk).1
    · have := (l2 k hk).1; omega
    · simp [Value.ownBlock] at hk
  · show (wc.heap.size :: (nu.ownBlock.toList ++ va.ownBlock.toList ++ [])).Nodup
    rw [List.append_nil, List.nodup_cons, List.mem_append, Option.mem_toList, Option.mem_toList]
    refine ⟨fun e => e.elim (fun e => by have := (l1 _ e).2; omega) (fun e => by have := (l2 _ e).2; omega), ?_⟩
    revert l1 l2
    generalize nu.ownBlock = o1
    generalize va.ownBlock = o2
    intro l1 l2
    cases o1 with
    | none => cases o2 <;> simp
    | some x => cases o2 with
      | none => simp
      | some y =>
        have h1 := (l1 x rfl).2
        have h2 := (l2 y rfl).1
        simp; omega

set_option linter.unusedSimpArgs false in
set_option linter.unusedVariables false in
set_option maxHeartbeats 4000000 in
set_option maxRecDepth 1000000 in
theorem r13 {w0 : World} {D : List Nat} {C : Nat → Nd} {P N : Nat → Option Nat} {w1 : World} {b g g2 l c c2 h : Nat} (hR : Rep w0 D C P N w1) (hb : b ∈ D) (hch : (C b).ch = .slice none 0 0) (hnu : (C b).nu = .slice (some ⟨g, 0, none⟩) l c) (hva : (C b).va = .slice (some ⟨g2, 0, none⟩) l c2) (hX : (C b).xs.length = l) (hl : l ≤ 1000) (hh : h < l) {Q : Exit → Act → World → Prop}
    {u1 u2 u3 u4 u5 u6 u7 u8 u9 u10 u11 u13 u14 u15 u16 u17 u18 u19 u20 u21 u22 u23 u24 u25 u26 u27 u28 u29 u30 u31 u32 u33 u34 u35 u36 u37 u38 u39 u40 u41 u42 u43 u44 u45 u46 u47 u48 u49 u50 u51 u52 u53 u54 u55 u56 u57 u58 u59 u60 u61 u62 u63 u64 u65 u66 u67 u68 u69 u70 u71 u72 u73 u74 u75 u76 u77 u78 u79 u80 u81 u82 u83 u84 u85 u86 u87 u88 u89 u90 u91 u92 u93 u94 u95 u96 u97 u98 u99 u100 u101 u102 u103 u104 u105 u106 u107 u108 u109 u110 u111 u112 u113 u114 u115 u116 u117 u118 u119 u120 u121 u122 u123 u124 u125 u126 u127 u128 u129 u130 u131 u132 u133 u134 u135 u136 u137 u138 u139 u140 u141 u142 u143 u144 u145 u146 u147 u148 u149 u150 u151 u152 u153 u154 u155 u156 u157 u158 u159 u160 u161 u162 u163 u164 u165 u166 u167 u168 u169 u170 u171 u172 u173 u174 u175 u176 u177 u178 u179 u180 u181 u182 u183 u184 u185 u186 u187 u188 u189 u190 u191 u192 u193 u194 u195 u196 u197 u198 u199 u200 u201 u202 u203 u204 u205 u206 u207 u208 u209 u210 u211 u212 u213 u214 u215 u216 u217 u218 u219 u220 u221 u222 u223 u224 u225 u226 u227 u228 u229 u230 u231 u232 u233 u234 u235 u236 u237 u238 u239 u240 u241 u242 u243 u244 u245 u246 u247 u248 u249 u250 u251 u252 u253 u254 u255 u256 u257 u258 u259 u260 u261 u262 u263 u264 u265 u266 u267 u268 u269 u270 u271 u272 u273 u274 u275 u276 u277 u278 u279 u280 u281 u282 u283 u284 u285 u286 u287 u288 u289 u290 u291 u292 u293 u294 u295 u296 u297 u298 u299 u300 u301 u302 u303 u304 u305 u306 u307 u308 u309 u310 u311 u312 u313 u314 u315 u316 u317 u318 u319 u320 u321 u322 u323 u324 u325 u326 u327 u328 u329 u330 u331 u332 u333 u334 u335 : Value}
    (hQ : ∀ (v133 v134 v135 v136 v137 v138 v139 v140 v141 v142 v143 v144 v145 v146 v147 v148 v149 v150 v151 v152 v153 v154 v155 v9 : Value) (w' : World), (∃ (u : Nat) (nu va : Value), v9 = .pointer (some ⟨u, 0, none⟩) ∧ w1.heap.size ≤ u ∧ St w0 D C w1 (u :: D) (upd C u ⟨nu, va, .slice none 0 0, (C b).xs.drop h, [], 0, ((l - h : Nat) : Int)⟩) (upd P u none) (upd N u none) w') → Q .normal ⟨#[.pointer (some ⟨b, 0, none⟩), u1, u2, u3, u4, u5, u6, u7, u8, v9, u10, u11, .int .i64 (h : Nat), u13, u14, u15, u16, u17, u18, u19, u20, u21, u22, u23, u24, u25, u26, u27, u28, u29, u30, u31, u32, u33, u34, u35, u36, u37, u38, u39, u40, u41, u42, u43, u44, u45, u46, u47, u48, u49, u50, u51, u52, u53, u54, u55, u56, u57, u58, u59, u60, u61, u62, u63, u64, u65, u66, u67, u68, u69, u70, u71, u72, u73, u74, u75, u76, u77, u78, u79, u80, u81, u82, u83, u84, u85, u86, u87, u88, u89, u90, u91, u92, u93, u94, u95, u96, u97, u98, u99, u100, u101, u102, u103, u104, u105, u106, u107, u108, u109, u110, u111, u112, u113, u114, u115, u116, u117, u118, u119, u120, u121, u122, u123, u124, u125, u126, u127, u128, u129, u130, u131, u132, v133, v134, v135, v136, v137, v138, v139, v140, v141, v142, v143, v144, v145, v146, v147, v148, v149, v150, v151, v152, v153, v154, v155, u156, u157, u158, u159, u160, u161, u162, u163, u164, u165, u166, u167, u168, u169, u170, u171, u172, u173, u174, u175, u176, u177, u178, u179, u180, u181, u182, u183, u184, u185, u186, u187, u188, u189, u190, u191, u192, u193, u194, u195, u196, u197, u198, u199, u200, u201, u202, u203, u204, u205, u206, u207, u208, u209, u210, u211, u212, u213, u214, u215, u216, u217, u218, u219, u220, u221, u222, u223, u224, u225, u226, u227, u228, u229, u230, u231, u232, u233, u234, u235, u236, u237, u238, u239, u240, u241, u242, u243, u244, u245, u246, u247, u248, u249, u250, u251, u252, u253, u254, u255, u256, u257, u258, u259, u260, u261, u262, u263, u264, u265, u266, u267, u268, u269, u270, u271, u272, u273, u274, u275, u276, u277, u278, u279, u280, u281, u282, u283, u284, u285, u286, u287, u288, u289, u290, u291, u292, u293, u294, u295, u296, u297, u298, u299, u300, u301, u302, u303, u304, u305, u306, u307, u308, u309, u310, u311, u312, u313, u314, u315, u316, u317, u318, u319, u320, u321, u322, u323, u324, u325, u326, u327, u328, u329, u330, u331, u332, u333, u334, u335], []⟩ w') :
    Code.wp Yba.prog ((regionAt 13 (Yba.f11.body.getD .skip)).getD .skip) Q ⟨#[.pointer (some ⟨b, 0, none⟩), u1, u2, u3, u4, u5, u6, u7, u8, u9, u10, u11, .int .i64 (h : Nat), u13, u14, u15, u16, u17, u18, u19, u20, u21, u22, u23, u24, u25, u26, u27, u28, u29, u30, u31, u32, u33, u34, u35, u36, u37, u38, u39, u40, u41, u42, u43, u44, u45, u46, u47, u48, u49, u50, u51, u52, u53, u54, u55, u56, u57, u58, u59, u60, u61, u62, u63, u64, u65, u66, u67, u68, u69, u70, u71, u72, u73, u74, u75, u76, u77, u78, u79, u80, u81, u82, u83, u84, u85, u86, u87, u88, u89, u90, u91, u92, u93, u94, u95, u96, u97, u98, u99, u100, u101, u102, u103, u104, u105, u106, u107, u108, u109, u110, u111, u112, u113, u114, u115, u116, u117, u118, u119, u120, u121, u122, u123, u124, u125, u126, u127, u128, u129, u130, u131, u132, u133, u134, u135, u136, u137, u138, u139, u140, u141, u142, u143, u144, u145, u146, u147, u148, u149, u150, u151, u152, u153, u154, u155, u156, u157, u158, u159, u160, u161, u162, u163, u164, u165, u166, u167, u168, u169, u170, u171, u172, u173, u174, u175, u176, u177, u178, u179, u180, u181, u182, u183, u184, u185, u186, u187, u188, u189, u190, u191, u192, u193, u194, u195, u196, u197, u198, u199, u200, u201, u202, u203, u204, u205, u206, u207, u208, u209, u210, u211, u212, u213, u214, u215, u216, u217, u218, u219, u220, u221, u222, u223, u224, u225, u226, u227, u228, u229, u230, u231, u232, u233, u234, u235, u236, u237, u238, u239, u240, u241, u242, u243, u244, u245, u246, u247, u248, u249, u250, u251, u252, u253, u254, u255, u256, u257, u258, u259, u260, u261, u262, u263, u264, u265, u266, u267, u268, u269, u270, u271, u272, u273, u274, u275, u276, u277, u278, u279, u280, u281, u282, u283, u284, u285, u286, u287, u288, u289, u290, u291, u292, u293, u294, u295, u296, u297, u298, u299, u300, u301, u302, u303, u304, u305, u306, u307, u308, u309, u310, u311, u312, u313, u314, u315, u316, u317, u318, u319, u320, u321, u322, u323, u324, u325, u326, u327, u328, u329, u330, u331, u332, u333, u334, u335], []⟩ w1 := by
  conv => arg 2; whnf
  refine wp_region_noPanic ?_
  obtain ⟨i23, hi23, hz0, hz1, hz2⟩ := info_parts infoY23
  have L0 := hR.leaf hb hch
  rw [hnu, hva, hX] at L0
  have o1 := u64_one (C b).xs
  have o2 := u64_one2 (C b).xs
  generalize hns : (C b).xs.map (Value.int .u64) = ns at L0 o1
  generalize hvs : (C b).xs.map (fun x => Value.int .u64 (vx x)) = vs at L0 o2
  have hln : (ns.drop h).length = (l - h) * 1 := by rw [← hns]; simp [hX]
  have hlv : (vs.drop h).length = (l - h) * 1 := by rw [← hvs]; simp [hX]
  have HNS : Hid ((C b).xs.map (Value.int .u64) = ns ∧ (C b).xs.map (fun x => Value.int .u64 (vx x)) = vs) := ⟨hns, hvs⟩
  have HH : Hid ((C b).xs.length = l) := hX
  obtain ⟨e0, e1, e2, e3, e4⟩ := L0.facts
  obtain ⟨hlc, hcm⟩ := own_cap L0.nums
  obtain ⟨hlc2, hcm2⟩ := own_cap L0.vals
  have hhl : h ≤ l := by omega
  have hc1 : ¬ c = h := by omega
  have hc2 : ¬ c2 = h := by omega
  have hlh : ((l : Int) - (h : Int)) = ((l - h : Nat) : Int) := by omega
  have hw : IntKind.i64.wrap ((l : Int) - (h : Int)) = ((l - h : Nat) : Int) := by rw [IntKind.wrap_i64]; omega
  clear hns hvs hX hnu hva hlh
  have L1 := L0.drew
  go_region_held3 (fun w' => w'.cell? ⟨b, 0, none⟩ = some (.slice (some ⟨g, 0, none⟩) l c) ∧ w'.cell? ⟨b, 1, none⟩ = some (.slice (some ⟨g2, 0, none⟩) l c2))
    (first | exact ⟨L1.facts.1, L1.facts.2.1⟩ | exact ⟨LA.facts.1, LA.facts.2.1⟩ | exact ⟨LB.facts.1, LB.facts.2.1⟩ | exact ⟨(LB.alloc _).facts.1, (LB.alloc _).facts.2.1⟩ | go_keep)
    (first
      | (refine step_append_ownY rfl (.const (.slice none 0 0)) (.tmp 138) 22 rfl w0.heap.size 23 i23 (.int .u64 0) 1 8 Yba.underlying22 hi23 hz0 hz1 hz2 rfl (by decide) (.slice none 0 0) 0 [] rfl (World.ownsRow_nil _ _ _ _) ⟨g, h, none⟩ (l - h) (c - h) (ns.drop h) rfl hln (own_news L1.nums h) (drop_one o1 h) (by simp [maxLen]; omega) (by omega) L1.base_le (fun va wA hoA hgA hatA => ?_)
         simp only [Nat.zero_add, List.nil_append] at hoA
         obtain ⟨aA, cA, rfl⟩ := own_formY hoA
         have LA := L1.below (below_grown hgA))
      | (refine step_append_ownY rfl (.const (.slice none 0 0)) (.tmp 145) 22 rfl w0.heap.size 23 i23 (.int .u64 0) 1 8 Yba.underlying22 hi23 hz0 hz1 hz2 rfl (by decide) (.slice none 0 0) 0 [] rfl (World.ownsRow_nil _ _ _ _) ⟨g2, h, none⟩ (l - h) (c2 - h) (vs.drop h) rfl hlv (own_news LA.vals h) (drop_one o2 h) (by simp [maxLen]; omega) (by omega) LA.base_le (fun vb wB hoB hgB hatB => ?_)
         simp only [Nat.zero_add, List.nil_append] at hoB
         obtain ⟨aB, cB, rfl⟩ := own_formY hoB
         have LB := LA.below (below_grown hgB)))
  all_goals refine NoPanic.normal (hQ _ _ _ _ _ _ _ _ _ _ _ _ _ _ _ _ _ _ _ _ _ _ _ _ _ ?_)
  all_goals exact ⟨_, _, _, rfl, Nat.le_trans hgA.size hgB.size, new_leaf hR (wa := w1.drew) (below_drewNY (Below.refl _ _) 1) hoA hgA hatA hoB hgB hatB (by simp [HH.out]) (by simp [HH.out]) (by simp [← HNS.out.1]) (by simp [← HNS.out.2])⟩

end Go.Proofs.Ybulkbiy
