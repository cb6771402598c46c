import Derived.Test.YbulkbiyUntil
/-! insert (11), region 6: the two arrays grown by a place, and shown in the row. -/
namespace Go.Proofs.Ybulkbiy
attribute [local go_sem ↓] Go.wp_at_zero Go.wp_at_succ
open Go.RowKit Go.Maps Go.Sort

def regionAt (k : Nat) : Code → Option Code
  | .region id ops b => if id = k then some (.region id ops b) else none
  | .seq a b => match regionAt k a with
    | some c => some c
    | none => regionAt k b
  | .cond _ a b => match regionAt k a with
    | some c => some c
    | none => regionAt k b
  | .block _ c => regionAt k c
  | .loop c => regionAt k c
  | .scope c => regionAt k c
  | _ => none

set_option linter.unusedSimpArgs false in
set_option maxHeartbeats 4000000 in
set_option maxRecDepth 1000000 in
theorem r6 {base : Nat} {W : World} {BB : List Nat} {b : Nat} {m : Nat} {ns vs : List Value} {a a2 : Option Addr} {c cv : Nat} {fi sz : Int} {p n : Option Nat} {w1 : World}
    (L1 : LW base W BB b (.slice a m c) (.slice a2 m cv) (.slice a m c) (.slice a2 m cv) m m ns vs fi sz p n w1) (hl : m ≤ 99) {Q : Exit → Act → World → Prop}
    {u1 u2 u3 u4 u5 u6 u7 u8 u9 u10 u12 u13 u14 u15 u16 u17 u18 u19 u20 u21 u22 u23 u24 u25 u26 u27 u28 u29 u30 u31 u32 u33 u34 u35 u36 u37 u38 u39 u40 u41 u61 u62 u63 u64 u65 u66 u67 u68 u69 u70 u71 u72 u73 u74 u75 u76 u77 u78 u79 u80 u81 u82 u83 u84 u85 u86 u87 u88 u89 u90 u91 u92 u93 u94 u95 u96 u97 u98 u99 u100 u101 u102 u103 u104 u105 u106 u107 u108 u109 u110 u111 u112 u113 u114 u115 u116 u117 u118 u119 u120 u121 u122 u123 u124 u125 u126 u127 u128 u129 u130 u131 u132 u133 u134 u135 u136 u137 u138 u139 u140 u141 u142 u143 u144 u145 u146 u147 u148 u149 u150 u151 u152 u153 u154 u155 u156 u157 u158 u159 u160 u161 u162 u163 u164 u165 u166 u167 u168 u169 u170 u171 u172 u173 u174 u175 u176 u177 u178 u179 u180 u181 u182 u183 u184 u185 u186 u187 u188 u189 u190 u191 u192 u193 u194 u195 u196 u197 u198 u199 u200 u201 u202 u203 u204 u205 u206 u207 u208 u209 u210 u211 u212 u213 u214 u215 u216 u217 u218 u219 u220 u221 u222 u223 u224 u225 u226 u227 u228 u229 u230 u231 u232 u233 u234 u235 u236 u237 u238 u239 u240 u241 u242 u243 u244 u245 u246 u247 u248 u249 u250 u251 u252 u253 u254 u255 u256 u257 u258 u259 u260 u261 u262 u263 u264 u265 u266 u267 u268 u269 u270 u271 u272 u273 u274 u275 u276 u277 u278 u279 u280 u281 u282 u283 u284 u285 u286 u287 u288 u289 u290 u291 u292 u293 u294 u295 u296 u297 u298 u299 u300 u301 u302 u303 u304 u305 u306 u307 u308 u309 u310 u311 u312 u313 u314 u315 u316 u317 u318 u319 u320 u321 u322 u323 u324 u325 u326 u327 u328 u329 u330 u331 u332 u333 u334 u335 u42 u43 u44 u45 u46 u47 u48 u49 u50 u51 u52 u53 u54 u55 u56 u57 u58 u59 u60 : Value}
    (hQ : ∀ (v42 v43 v44 v45 v46 v47 v48 v49 v50 v51 v52 v53 v54 v55 v56 v57 v58 v59 v60 : Value) (w' : World), (∃ nu1 va1, LW base W BB b nu1 va1 nu1 va1 (m + 1) (m + 1) (ns ++ [.int .u64 0]) (vs ++ [.int .u64 0]) fi sz p n w') → Q .normal ⟨#[.pointer (some ⟨b, 0, none⟩), u1, u2, u3, u4, u5, u6, u7, u8, u9, u10, .int .u64 0, u12, u13, u14, u15, u16, u17, u18, u19, u20, u21, u22, u23, u24, u25, u26, u27, u28, u29, u30, u31, u32, u33, u34, u35, u36, u37, u38, u39, u40, u41, v42, v43, v44, v45, v46, v47, v48, v49, v50, v51, v52, v53, v54, v55, v56, v57, v58, v59, v60, u61, u62, u63, u64, u65, u66, u67, u68, u69, u70, u71, u72, u73, u74, u75, u76, u77, u78, u79, u80, u81, u82, u83, u84, u85, u86, u87, u88, u89, u90, u91, u92, u93, u94, u95, u96, u97, u98, u99, u100, u101, u102, u103, u104, u105, u106, u107, u108, u109, u110, u111, u112, u113, u114, u115, u116, u117, u118, u119, u120, u121, u122, u123, u124, u125, u126, u127, u128, u129, u130, u131, u132, u133, u134, u135, u136, u137, u138, u139, u140, u141, u142, u143, u144, u145, u146, u147, u148, u149, u150, u151, u152, u153, u154, u155, u156, u157, u158, u159, u160, u161, u162, u163, u164, u165, u166, u167, u168, u169, u170, u171, u172, u173, u174, u175, u176, u177, u178, u179, u180, u181, u182, u183, u184, u185, u186, u187, u188, u189, u190, u191, u192, u193, u194, u195, u196, u197, u198, u199, u200, u201, u202, u203, u204, u205, u206, u207, u208, u209, u210, u211, u212, u213, u214, u215, u216, u217, u218, u219, u220, u221, u222, u223, u224, u225, u226, u227, u228, u229, u230, u231, u232, u233, u234, u235, u236, u237, u238, u239, u240, u241, u242, u243, u244, u245, u246, u247, u248, u249, u250, u251, u252, u253, u254, u255, u256, u257, u258, u259, u260, u261, u262, u263, u264, u265, u266, u267, u268, u269, u270, u271, u272, u273, u274, u275, u276, u277, u278, u279, u280, u281, u282, u283, u284, u285, u286, u287, u288, u289, u290, u291, u292, u293, u294, u295, u296, u297, u298, u299, u300, u301, u302, u303, u304, u305, u306, u307, u308, u309, u310, u311, u312, u313, u314, u315, u316, u317, u318, u319, u320, u321, u322, u323, u324, u325, u326, u327, u328, u329, u330, u331, u332, u333, u334, u335], []⟩ w') :
    Code.wp Yba.prog ((regionAt 6 (Yba.f11.body.getD .skip)).getD .skip) Q ⟨#[.pointer (some ⟨b, 0, none⟩), u1, u2, u3, u4, u5, u6, u7, u8, u9, u10, .int .u64 0, u12, u13, u14, u15, u16, u17, u18, u19, u20, u21, u22, u23, u24, u25, u26, u27, u28, u29, u30, u31, u32, u33, u34, u35, u36, u37, u38, u39, u40, u41, u42, u43, u44, u45, u46, u47, u48, u49, u50, u51, u52, u53, u54, u55, u56, u57, u58, u59, u60, u61, u62, u63, u64, u65, u66, u67, u68, u69, u70, u71, u72, u73, u74, u75, u76, u77, u78, u79, u80, u81, u82, u83, u84, u85, u86, u87, u88, u89, u90, u91, u92, u93, u94, u95, u96, u97, u98, u99, u100, u101, u102, u103, u104, u105, u106, u107, u108, u109, u110, u111, u112, u113, u114, u115, u116, u117, u118, u119, u120, u121, u122, u123, u124, u125, u126, u127, u128, u129, u130, u131, u132, u133, u134, u135, u136, u137, u138, u139, u140, u141, u142, u143, u144, u145, u146, u147, u148, u149, u150, u151, u152, u153, u154, u155, u156, u157, u158, u159, u160, u161, u162, u163, u164, u165, u166, u167, u168, u169, u170, u171, u172, u173, u174, u175, u176, u177, u178, u179, u180, u181, u182, u183, u184, u185, u186, u187, u188, u189, u190, u191, u192, u193, u194, u195, u196, u197, u198, u199, u200, u201, u202, u203, u204, u205, u206, u207, u208, u209, u210, u211, u212, u213, u214, u215, u216, u217, u218, u219, u220, u221, u222, u223, u224, u225, u226, u227, u228, u229, u230, u231, u232, u233, u234, u235, u236, u237, u238, u239, u240, u241, u242, u243, u244, u245, u246, u247, u248, u249, u250, u251, u252, u253, u254, u255, u256, u257, u258, u259, u260, u261, u262, u263, u264, u265, u266, u267, u268, u269, u270, u271, u272, u273, u274, u275, u276, u277, u278, u279, u280, u281, u282, u283, u284, u285, u286, u287, u288, u289, u290, u291, u292, u293, u294, u295, u296, u297, u298, u299, u300, u301, u302, u303, u304, u305, u306, u307, u308, u309, u310, u311, u312, u313, u314, u315, u316, u317, u318, u319, u320, u321, u322, u323, u324, u325, u326, u327, u328, u329, u330, u331, u332, u333, u334, u335], []⟩ w1 := by
  conv => arg 2; whnf
  refine wp_region_noPanic ?_
  obtain ⟨i23, hi23, hz0, hz1, hz2⟩ := info_parts infoY23
  have hnb := fun k hk => (L1.nums.lt k hk).2
  have hvb := fun k hk => (L1.vals.lt k hk).2
  have L2 := L1.drew
  have hS : (fun w : World => w.cell? ⟨b, 0, none⟩ = some (.slice a m c) ∧ w.cell? ⟨b, 1, none⟩ = some (.slice a2 m cv)) w1.drew := ⟨L2.facts.1, L2.facts.2.1⟩
  refine wp_region_T (S := fun w => w.cell? ⟨b, 0, none⟩ = some (.slice a m c) ∧ w.cell? ⟨b, 1, none⟩ = some (.slice a2 m cv)) (H := fun i => i == 5 || i == 6 || i == 7 || i == 11 || i == 13 || i == 14) (by kernel_rfl) ?_
  refine wpAnyT_takeW (i := 0) (v := ?_) rfl (by kernel_rfl) (by kernel_rfl) (by kernel_rfl) (by kernel_rfl) (fun _ _ _ h => h) (Or.inl ⟨by rfl, ?_⟩) ?_
  rotate_left
  · intro w _
    go_simp
    try with_reducible rfl
  try simp only [Act.put, List.setIfInBounds_toArray, List.set_cons_zero, List.set_cons_succ]
  refine wpAnyT_takeW (i := 1) (v := ?_) rfl (by kernel_rfl) (by kernel_rfl) (by kernel_rfl) (by kernel_rfl) (fun _ _ _ h => h) (Or.inl ⟨by rfl, ?_⟩) ?_
  rotate_left
  · intro w _
    go_simp
    try with_reducible rfl
  try simp only [Act.put, List.setIfInBounds_toArray, List.set_cons_zero, List.set_cons_succ]
  refine wpAnyT_takeW (i := 2) (v := ?_) rfl (by kernel_rfl) (by kernel_rfl) (by kernel_rfl) (by kernel_rfl) (fun _ _ _ h => h) (Or.inl ⟨by rfl, ?_⟩) ?_
  rotate_left
  · intro w _
    go_simp
    try with_reducible rfl
  try simp only [Act.put, List.setIfInBounds_toArray, List.set_cons_zero, List.set_cons_succ]
  refine wpAnyT_takeW (i := 3) (v := ?_) rfl (by kernel_rfl) (by kernel_rfl) (by kernel_rfl) (by kernel_rfl) (fun _ _ _ h => h) (Or.inl ⟨by rfl, ?_⟩) ?_
  rotate_left
  · intro w _
    go_simp
    try with_reducible rfl
  try simp only [Act.put, List.setIfInBounds_toArray, List.set_cons_zero, List.set_cons_succ]
  refine wpAnyT_takeW (i := 4) (v := ?_) rfl (by kernel_rfl) (by kernel_rfl) (by kernel_rfl) (by kernel_rfl) (fun _ _ _ h => h) (Or.inl ⟨by rfl, ?_⟩) ?_
  rotate_left
  · intro w _
    go_simp
    try with_reducible rfl
  try simp only [Act.put, List.setIfInBounds_toArray, List.set_cons_zero, List.set_cons_succ]
  refine wpAnyT_takeW (i := 8) (v := ?_) rfl (by kernel_rfl) (by kernel_rfl) (by kernel_rfl) (by kernel_rfl) (fun _ _ _ h => h) (Or.inl ⟨by rfl, ?_⟩) ?_
  rotate_left
  · intro w _
    go_simp
    try with_reducible rfl
  try simp only [Act.put, List.setIfInBounds_toArray, List.set_cons_zero, List.set_cons_succ]
  refine wpAnyT_takeW (i := 9) (v := ?_) rfl (by kernel_rfl) (by kernel_rfl) (by kernel_rfl) (by kernel_rfl) (fun _ _ _ h => h) (Or.inl ⟨by rfl, ?_⟩) ?_
  rotate_left
  · intro w _
    go_simp
    try with_reducible rfl
  try simp only [Act.put, List.setIfInBounds_toArray, List.set_cons_zero, List.set_cons_succ]
  refine wpAnyT_takeW (i := 10) (v := ?_) rfl (by kernel_rfl) (by kernel_rfl) (by kernel_rfl) (by kernel_rfl) (fun _ _ _ h => h) (Or.inl ⟨by rfl, ?_⟩) ?_
  rotate_left
  · intro w _
    go_simp
    try with_reducible rfl
  try simp only [Act.put, List.setIfInBounds_toArray, List.set_cons_zero, List.set_cons_succ]
  refine wpAnyT_takeW (i := 12) (v := ?_) rfl (by kernel_rfl) (by kernel_rfl) (by kernel_rfl) (by kernel_rfl) (fun _ _ _ h => h) (Or.inl ⟨by rfl, ?_⟩) ?_
  rotate_left
  · intro w _
    go_simp
    try with_reducible rfl
  try simp only [Act.put, List.setIfInBounds_toArray, List.set_cons_zero, List.set_cons_succ]
  refine wpAnyT_take (i := 5) (v := ?_) rfl (by kernel_rfl) (by kernel_rfl) (by kernel_rfl) (by kernel_rfl) (by kernel_rfl) (fun _ _ _ h => h) (Or.inl ⟨by rfl, ?_⟩) hS ?_
  rotate_left
  · intro w hSw
    obtain ⟨hS0, hS1⟩ := hSw
    go_simp
    try with_reducible rfl
  try simp only [Act.put, List.setIfInBounds_toArray, List.set_cons_zero, List.set_cons_succ]
  refine wpAnyT_take (i := 11) (v := ?_) rfl (by kernel_rfl) (by kernel_rfl) (by kernel_rfl) (by kernel_rfl) (by kernel_rfl) (fun _ _ _ h => h) (Or.inl ⟨by rfl, ?_⟩) hS ?_
  rotate_left
  · intro w hSw
    obtain ⟨hS0, hS1⟩ := hSw
    go_simp
    try with_reducible rfl
  try simp only [Act.put, List.setIfInBounds_toArray, List.set_cons_zero, List.set_cons_succ]
  refine wpAnyT_ready (rs := [6, 13]) (by kernel_rfl) (by simp) ?_
  refine AllReadyT.cons rfl (fun K hK => ?_) (AllReadyT.cons rfl (fun K hK => ?_) AllReadyT.nil)
  · go_simp
    refine hK.out _ _ (fun _ => ⟨(L2.alloc _).facts.1, (L2.alloc _).facts.2.1⟩) ?_
    clear hK K
    try simp only [Act.put, List.setIfInBounds_toArray, List.set_cons_zero, List.set_cons_succ]
    refine wpAnyT_ready (rs := [7, 13]) (by kernel_rfl) (by simp) ?_
    refine AllReadyT.cons rfl (fun K hK => ?_) (AllReadyT.cons rfl (fun K hK => ?_) AllReadyT.nil)
    · refine step_append_ownY rfl (.tmp 47) (.tmp 48) 22 rfl base 23 i23 (.int .u64 0) 1 8 Yba.underlying22 hi23 hz0 hz1 hz2 rfl (by decide) (.slice a m c) m ns rfl (L2.alloc _).nums _ 1 1 [.int .u64 0] rfl rfl (one_news (by simp)) (by simp [Value.oneCell']) (by simp [maxLen]; omega) (by omega) (L2.alloc _).base_le (fun v1 w2 ho1 hg1 hat1 => ?_)
      obtain ⟨aa1, cc1, rfl⟩ := own_formY ho1
      have M1 := LW.turnN (L2.alloc _) hg1 ho1 hat1
      refine hK.out _ _ (fun _ => ⟨M1.facts.1, M1.facts.2.1⟩) ?_
      clear hK K
      try simp only [Act.put, List.setIfInBounds_toArray, List.set_cons_zero, List.set_cons_succ]
      refine wpAnyT_ready (rs := [13]) (by kernel_rfl) (by simp) ?_
      refine AllReadyT.cons rfl (fun K hK => ?_) AllReadyT.nil
      go_simp
      refine hK.out _ _ (fun _ => ⟨(M1.alloc _).facts.1, (M1.alloc _).facts.2.1⟩) ?_
      clear hK K
      try simp only [Act.put, List.setIfInBounds_toArray, List.set_cons_zero, List.set_cons_succ]
      refine wpAnyT_ready (rs := [14]) (by kernel_rfl) (by simp) ?_
      refine AllReadyT.cons rfl (fun K hK => ?_) AllReadyT.nil
      refine step_append_ownY rfl (.tmp 53) (.tmp 55) 22 rfl base 23 i23 (.int .u64 0) 1 8 Yba.underlying22 hi23 hz0 hz1 hz2 rfl (by decide) (.slice a2 m cv) m vs rfl (M1.alloc _).vals _ 1 1 [.int .u64 0] rfl rfl (one_news (by simp)) (by simp [Value.oneCell']) (by simp [maxLen]; omega) (by omega) (M1.alloc _).base_le (fun v2 w3 ho2 hg2 hat2 => ?_)
      obtain ⟨aa2, cc2, rfl⟩ := own_formY ho2
      have M2 := LW.turnV (M1.alloc _) hg2 ho2 hat2
      refine hK.out _ _ (fun _ => ⟨M2.facts.1, M2.facts.2.1⟩) ?_
      clear hK K
      try simp only [Act.put, List.setIfInBounds_toArray, List.set_cons_zero, List.set_cons_succ]
      refine wpAnyT_takeW (i := 15) (v := ?_) rfl (by kernel_rfl) (by kernel_rfl) (by kernel_rfl) (by kernel_rfl) (fun _ _ _ h => h) (Or.inl ⟨by rfl, ?_⟩) ?_
      rotate_left
      · intro w _
        go_simp
        try with_reducible rfl
      try simp only [Act.put, List.setIfInBounds_toArray, List.set_cons_zero, List.set_cons_succ]
      refine wpAnyT_takeW (i := 16) (v := ?_) rfl (by kernel_rfl) (by kernel_rfl) (by kernel_rfl) (by kernel_rfl) (fun _ _ _ h => h) (Or.inl ⟨by rfl, ?_⟩) ?_
      rotate_left
      · intro w _
        go_simp
        try with_reducible rfl
      try simp only [Act.put, List.setIfInBounds_toArray, List.set_cons_zero, List.set_cons_succ]
      obtain ⟨e0, e1, e2, e3, e4⟩ := M2.facts
      refine wpAnyT_ready (rs := [17]) (by kernel_rfl) (by simp) ?_
      refine AllReadyT.cons rfl (fun K hK => ?_) AllReadyT.nil
      go_simp
      refine hK.out _ _ (fun h => (by simp at h)) ?_
      clear hK K
      try simp only [Act.put, List.setIfInBounds_toArray, List.set_cons_zero, List.set_cons_succ]
      refine wpAnyT_takeW (i := 18) (v := ?_) rfl (by kernel_rfl) (by kernel_rfl) (by kernel_rfl) (by kernel_rfl) (fun _ _ _ h => h) (Or.inl ⟨by rfl, ?_⟩) ?_
      rotate_left
      · intro w _
        go_simp
        try with_reducible rfl
      try simp only [Act.put, List.setIfInBounds_toArray, List.set_cons_zero, List.set_cons_succ]
      refine wpAnyT_takeW (i := 19) (v := ?_) rfl (by kernel_rfl) (by kernel_rfl) (by kernel_rfl) (by kernel_rfl) (fun _ _ _ h => h) (Or.inl ⟨by rfl, ?_⟩) ?_
      rotate_left
      · intro w _
        go_simp
        try with_reducible rfl
      try simp only [Act.put, List.setIfInBounds_toArray, List.set_cons_zero, List.set_cons_succ]
      refine wpAnyT_ready (rs := [20]) (by kernel_rfl) (by simp) ?_
      refine AllReadyT.cons rfl (fun K hK => ?_) AllReadyT.nil
      go_simp
      refine hK.out _ _ (fun h => (by simp at h)) ?_
      clear hK K
      try simp only [Act.put, List.setIfInBounds_toArray, List.set_cons_zero, List.set_cons_succ]
      refine wpAnyT_done (by kernel_rfl) ?_ _
      exact NoPanic.normal (hQ _ _ _ _ _ _ _ _ _ _ _ _ _ _ _ _ _ _ _ _ ⟨_, _, (M2.set0 _).set1 _⟩)
    · go_simp
      refine hK.out _ _ (fun _ => ⟨((L2.alloc _).alloc _).facts.1, ((L2.alloc _).alloc _).facts.2.1⟩) ?_
      clear hK K
      try simp only [Act.put, List.setIfInBounds_toArray, List.set_cons_zero, List.set_cons_succ]
      refine wpAnyT_ready (rs := [7]) (by kernel_rfl) (by simp) ?_
      refine AllReadyT.cons rfl (fun K hK => ?_) AllReadyT.nil
      refine step_append_ownY rfl (.tmp 47) (.tmp 48) 22 rfl base 23 i23 (.int .u64 0) 1 8 Yba.underlying22 hi23 hz0 hz1 hz2 rfl (by decide) (.slice a m c) m ns rfl ((L2.alloc _).alloc _).nums _ 1 1 [.int .u64 0] rfl rfl (one_news (by simp)) (by simp [Value.oneCell']) (by simp [maxLen]; omega) (by omega) ((L2.alloc _).alloc _).base_le (fun v3 w4 ho3 hg3 hat3 => ?_)
      obtain ⟨aa3, cc3, rfl⟩ := own_formY ho3
      have M3 := LW.turnN ((L2.alloc _).alloc _) hg3 ho3 hat3
      refine hK.out _ _ (fun _ => ⟨M3.facts.1, M3.facts.2.1⟩) ?_
      clear hK K
      try simp only [Act.put, List.setIfInBounds_toArray, List.set_cons_zero, List.set_cons_succ]
      refine wpAnyT_ready (rs := [14]) (by kernel_rfl) (by simp) ?_
      refine AllReadyT.cons rfl (fun K hK => ?_) AllReadyT.nil
      refine step_append_ownY rfl (.tmp 53) (.tmp 55) 22 rfl base 23 i23 (.int .u64 0) 1 8 Yba.underlying22 hi23 hz0 hz1 hz2 rfl (by decide) (.slice a2 m cv) m vs rfl M3.vals _ 1 1 [.int .u64 0] rfl rfl (one_news (cell_grown hg3 (fun e => by have := hnb _ e.symm; first | omega | (simp at this; done) | (simp at this; omega)) (by simp))) (by simp [Value.oneCell']) (by simp [maxLen]; omega) (by omega) M3.base_le (fun v4 w5 ho4 hg4 hat4 => ?_)
      obtain ⟨aa4, cc4, rfl⟩ := own_formY ho4
      have M4 := LW.turnV M3 hg4 ho4 hat4
      refine hK.out _ _ (fun _ => ⟨M4.facts.1, M4.facts.2.1⟩) ?_
      clear hK K
      try simp only [Act.put, List.setIfInBounds_toArray, List.set_cons_zero, List.set_cons_succ]
      refine wpAnyT_takeW (i := 15) (v := ?_) rfl (by kernel_rfl) (by kernel_rfl) (by kernel_rfl) (by kernel_rfl) (fun _ _ _ h => h) (Or.inl ⟨by rfl, ?_⟩) ?_
      rotate_left
      · intro w _
        go_simp
        try with_reducible rfl
      try simp only [Act.put, List.setIfInBounds_toArray, List.set_cons_zero, List.set_cons_succ]
      refine wpAnyT_takeW (i := 16) (v := ?_) rfl (by kernel_rfl) (by kernel_rfl) (by kernel_rfl) (by kernel_rfl) (fun _ _ _ h => h) (Or.inl ⟨by rfl, ?_⟩) ?_
      rotate_left
      · intro w _
        go_simp
        try with_reducible rfl
      try simp only [Act.put, List.setIfInBounds_toArray, List.set_cons_zero, List.set_cons_succ]
      obtain ⟨e0, e1, e2, e3, e4⟩ := M4.facts
      refine wpAnyT_ready (rs := [17]) (by kernel_rfl) (by simp) ?_
      refine AllReadyT.cons rfl (fun K hK => ?_) AllReadyT.nil
      go_simp
      refine hK.out _ _ (fun h => (by simp at h)) ?_
      clear hK K
      try simp only [Act.put, List.setIfInBounds_toArray, List.set_cons_zero, List.set_cons_succ]
      refine wpAnyT_takeW (i := 18) (v := ?_) rfl (by kernel_rfl) (by kernel_rfl) (by kernel_rfl) (by kernel_rfl) (fun _ _ _ h => h) (Or.inl ⟨by rfl, ?_⟩) ?_
      rotate_left
      · intro w _
        go_simp
        try with_reducible rfl
      try simp only [Act.put, List.setIfInBounds_toArray, List.set_cons_zero, List.set_cons_succ]
      refine wpAnyT_takeW (i := 19) (v := ?_) rfl (by kernel_rfl) (by kernel_rfl) (by kernel_rfl) (by kernel_rfl) (fun _ _ _ h => h) (Or.inl ⟨by rfl, ?_⟩) ?_
      rotate_left
      · intro w _
        go_simp
        try with_reducible rfl
      try simp only [Act.put, List.setIfInBounds_toArray, List.set_cons_zero, List.set_cons_succ]
      refine wpAnyT_ready (rs := [20]) (by kernel_rfl) (by simp) ?_
      refine AllReadyT.cons rfl (fun K hK => ?_) AllReadyT.nil
      go_simp
      refine hK.out _ _ (fun h => (by simp at h)) ?_
      clear hK K
      try simp only [Act.put, List.setIfInBounds_toArray, List.set_cons_zero, List.set_cons_succ]
      refine wpAnyT_done (by kernel_rfl) ?_ _
      exact NoPanic.normal (hQ _ _ _ _ _ _ _ _ _ _ _ _ _ _ _ _ _ _ _ _ ⟨_, _, (M4.set0 _).set1 _⟩)
  · go_simp
    refine hK.out _ _ (fun _ => ⟨(L2.alloc _).facts.1, (L2.alloc _).facts.2.1⟩) ?_
    clear hK K
    try simp only [Act.put, List.setIfInBounds_toArray, List.set_cons_zero, List.set_cons_succ]
    refine wpAnyT_ready (rs := [6]) (by kernel_rfl) (by simp) ?_
    refine AllReadyT.cons rfl (fun K hK => ?_) AllReadyT.nil
    go_simp
    refine hK.out _ _ (fun _ => ⟨((L2.alloc _).alloc _).facts.1, ((L2.alloc _).alloc _).facts.2.1⟩) ?_
    clear hK K
    try simp only [Act.put, List.setIfInBounds_toArray, List.set_cons_zero, List.set_cons_succ]
    refine wpAnyT_ready (rs := [7]) (by kernel_rfl) (by simp) ?_
    refine AllReadyT.cons rfl (fun K hK => ?_) AllReadyT.nil
    refine step_append_ownY rfl (.tmp 47) (.tmp 48) 22 rfl base 23 i23 (.int .u64 0) 1 8 Yba.underlying22 hi23 hz0 hz1 hz2 rfl (by decide) (.slice a m c) m ns rfl ((L2.alloc _).alloc _).nums _ 1 1 [.int .u64 0] rfl rfl (one_news (by simp)) (by simp [Value.oneCell']) (by simp [maxLen]; omega) (by omega) ((L2.alloc _).alloc _).base_le (fun v5 w6 ho5 hg5 hat5 => ?_)
    obtain ⟨aa5, cc5, rfl⟩ := own_formY ho5
    have M5 := LW.turnN ((L2.alloc _).alloc _) hg5 ho5 hat5
    refine hK.out _ _ (fun _ => ⟨M5.facts.1, M5.facts.2.1⟩) ?_
    clear hK K
    try simp only [Act.put, List.setIfInBounds_toArray, List.set_cons_zero, List.set_cons_succ]
    refine wpAnyT_ready (rs := [14]) (by kernel_rfl) (by simp) ?_
    refine AllReadyT.cons rfl (fun K hK => ?_) AllReadyT.nil
    refine step_append_ownY rfl (.tmp 53) (.tmp 55) 22 rfl base 23 i23 (.int .u64 0) 1 8 Yba.underlying22 hi23 hz0 hz1 hz2 rfl (by decide) (.slice a2 m cv) m vs rfl M5.vals _ 1 1 [.int .u64 0] rfl rfl (one_news (cell_grown hg5 (fun e => by have := hnb _ e.symm; first | omega | (simp at this; done) | (simp at this; omega)) (by simp))) (by simp [Value.oneCell']) (by simp [maxLen]; omega) (by omega) M5.base_le (fun v6 w7 ho6 hg6 hat6 => ?_)
    obtain ⟨aa6, cc6, rfl⟩ := own_formY ho6
    have M6 := LW.turnV M5 hg6 ho6 hat6
    refine hK.out _ _ (fun _ => ⟨M6.facts.1, M6.facts.2.1⟩) ?_
    clear hK K
    try simp only [Act.put, List.setIfInBounds_toArray, List.set_cons_zero, List.set_cons_succ]
    refine wpAnyT_takeW (i := 15) (v := ?_) rfl (by kernel_rfl) (by kernel_rfl) (by kernel_rfl) (by kernel_rfl) (fun _ _ _ h => h) (Or.inl ⟨by rfl, ?_⟩) ?_
    rotate_left
    · intro w _
      go_simp
      try with_reducible rfl
    try simp only [Act.put, List.setIfInBounds_toArray, List.set_cons_zero, List.set_cons_succ]
    refine wpAnyT_takeW (i := 16) (v := ?_) rfl (by kernel_rfl) (by kernel_rfl) (by kernel_rfl) (by kernel_rfl) (fun _ _ _ h => h) (Or.inl ⟨by rfl, ?_⟩) ?_
    rotate_left
    · intro w _
      go_simp
      try with_reducible rfl
    try simp only [Act.put, List.setIfInBounds_toArray, List.set_cons_zero, List.set_cons_succ]
    obtain ⟨e0, e1, e2, e3, e4⟩ := M6.facts
    refine wpAnyT_ready (rs := [17]) (by kernel_rfl) (by simp) ?_
    refine AllReadyT.cons rfl (fun K hK => ?_) AllReadyT.nil
    go_simp
    refine hK.out _ _ (fun h => (by simp at h)) ?_
    clear hK K
    try simp only [Act.put, List.setIfInBounds_toArray, List.set_cons_zero, List.set_cons_succ]
    refine wpAnyT_takeW (i := 18) (v := ?_) rfl (by kernel_rfl) (by kernel_rfl) (by kernel_rfl) (by kernel_rfl) (fun _ _ _ h => h) (Or.inl ⟨by rfl, ?_⟩) ?_
    rotate_left
    · intro w _
      go_simp
      try with_reducible rfl
    try simp only [Act.put, List.setIfInBounds_toArray, List.set_cons_zero, List.set_cons_succ]
    refine wpAnyT_takeW (i := 19) (v := ?_) rfl (by kernel_rfl) (by kernel_rfl) (by kernel_rfl) (by kernel_rfl) (fun _ _ _ h => h) (Or.inl ⟨by rfl, ?_⟩) ?_
    rotate_left
    · intro w _
      go_simp
      try with_reducible rfl
    try simp only [Act.put, List.setIfInBounds_toArray, List.set_cons_zero, List.set_cons_succ]
    refine wpAnyT_ready (rs := [20]) (by kernel_rfl) (by simp) ?_
    refine AllReadyT.cons rfl (fun K hK => ?_) AllReadyT.nil
    go_simp
    refine hK.out _ _ (fun h => (by simp at h)) ?_
    clear hK K
    try simp only [Act.put, List.setIfInBounds_toArray, List.set_cons_zero, List.set_cons_succ]
    refine wpAnyT_done (by kernel_rfl) ?_ _
    exact NoPanic.normal (hQ _ _ _ _ _ _ _ _ _ _ _ _ _ _ _ _ _ _ _ _ ⟨_, _, (M6.set0 _).set1 _⟩)

end Go.Proofs.Ybulkbiy
