import Derived.Test.Qxb6616109aDmF
import Derived.Test.Qxb6616109aCut
import Derived.Laws.CopyOwn
namespace Go.Proofs.Qxb6616109a
open Go.RowKit Go.Deep Go.Joins
set_option linter.unusedSimpArgs false
set_option linter.unusedVariables false

theorem neq25s (b o l c : Nat) (w : World) : (binOp .neq 25 (.slice (some ⟨b, o, none⟩) l c) (.slice none 0 0)).run Try.prog w = .ok (.bool true) w := by kernel_rfl
theorem addr_add (b o j : Nat) : (⟨b, o, none⟩ : Addr).add j = ⟨b, o + j, none⟩ := by unfold Addr.add; split <;> simp_all
theorem size3 : (Try.prog.info? 3).map (·.size) = some 1 := by kernel_rfl

set_option maxHeartbeats 4000000 in
set_option maxRecDepth 100000 in
theorem dPhaseB (C : Code) (w0 w : World) (nT nG a m : Nat) (v : Int) (A2 A3 A4 A5 : Option Addr) (c2 c3 c4 n5 c5 : Nat) (att : Nat → Int) (hB : Below w0.heap.size w0 w) (h5 : Cells w A5 n5 (fun i => .int .i64 (att i))) (hn5 : 1 ≤ n5) (hn5' : n5 ≤ 4096)
    {u8 u9 u10 u11 u12 u13 u14 u15 u16 u17 u18 u19 u20 u21 u22 u23 u24 u25 u26 u27 u28 u29 u30 u31 u32 u33 u34 u35 u36 u37 u38 u39 u40 u41 u42 u43 u44 u45 u46 u47 u48 u49 u50 u51 u52 u53 u54 u55 u56 u57 u58 u59 u60 u61 u62 u63 u64 u65 u66 u67 u68 u69 u70 u71 u72 u73 u74 u75 u76 u77 u78 u79 u80 u81 u82 u83 u84 u85 u86 u87 u88 u89 u90 u91 u92 u93 u94 u95 u96 u97 u98 u99 u100 u101 u102 u103 u104 u105 u106 u107 u108 u109 u110 u111 u112 u113 u114 u115 u116 u117 u118 u119 u120 u121 u122 u123 u124 u125 u126 u127 u128 u129 u130 u131 u132 u133 u134 u135 u136 u137 u138 u139 u140 u141 u142 u143 u144 u145 u146 u147 u148 u149 u150 u151 u152 u153 u154 u155 u156 u157 u158 u159 u160 u161 u162 u163 u164 u165 u166 u167 u168 u169 u170 u171 u172 u173 u174 u175 u176 u177 u178 u179 u180 u181 u182 u183 u184 u185 u186 u187 u188 u189 u190 u191 u192 u193 u194 u195 u196 u197 u198 u199 u200 u201 u202 u203 u204 u205 u206 u207 u208 u209 u210 u211 u212 u213 u214 u215 u216 u217 u218 u219 u220 u221 u222 u223 u224 u225 u226 u227 u228 u229 u230 u231 u232 u233 u234 u235 u236 u237 u238 u239 u240 u241 u242 u243 u244 u245 u246 u247 u248 u249 u250 u251 u252 u253 u254 u255 u256 u257 u258 u259 u260 u261 u262 u263 u264 u265 u266 u267 u268 u269 u270 u271 u272 u273 u274 u275 u276 u277 u278 u279 u280 u281 u282 u283 u284 u285 u286 u287 u288 u289 u290 u291 u292 u293 u294 u295 u296 u297 u298 u299 u300 u301 u302 u303 u304 u305 u306 u307 u308 u309 u310 u311 u312 u313 u314 u315 u316 u317 u318 u319 u320 u321 u322 u323 u324 u325 u326 u327 u328 u329 u330 u331 u332 u333 u334 u335 u336 u337 u338 u339 u340 u341 u342 u343 u344 u345 u346 u347 u348 u349 u350 u351 u352 u353 u354 u355 u356 u357 u358 u359 u360 u361 u362 u363 u364 u365 u366 u367 u368 u369 u370 u371 u372 u373 : Value}
    (hC : ∀ (at_ : Nat) (w1 : World) {u8 u9 u10 u11 u12 u13 u14 u15 u16 u17 u18 u19 u20 u21 u22 u23 u24 u25 u26 u27 u28 u29 u30 u31 u32 u33 u34 u35 u36 u37 u38 u39 u40 u41 u42 u43 u44 u45 u46 u47 u48 u49 u50 u51 u52 u53 u54 u55 u56 u57 u58 u59 u60 u61 u62 u63 u64 u65 u66 u67 u68 u69 u70 u71 u72 u73 u74 u75 u76 u77 u78 u79 u80 u81 u82 u83 u84 u85 u86 u87 u88 u89 u90 u91 u92 u93 u94 u95 u96 u97 u98 u99 u100 u101 u102 u103 u104 u105 u106 u107 u108 u109 u110 u111 u112 u113 u114 u115 u116 u117 u118 u119 u120 u121 u122 u123 u124 u125 u126 u127 u128 u129 u130 u131 u132 u133 u134 u135 u136 u137 u138 u139 u140 u141 u142 u143 u144 u145 u146 u147 u148 u149 u150 u151 u152 u153 u154 u155 u156 u157 u158 u159 u160 u161 u162 u163 u164 u165 u166 u167 u168 u169 u170 u171 u172 u173 u174 u175 u176 u177 u178 u179 u180 u181 u182 u183 u184 u185 u186 u187 u188 u189 u190 u191 u192 u193 u194 u195 u196 u197 u198 u199 u200 u201 u202 u203 u204 u205 u206 u207 u208 u209 u210 u211 u212 u213 u214 u215 u216 u217 u218 u219 u220 u221 u222 u223 u224 u225 u226 u227 u228 u229 u230 u231 u232 u233 u234 u235 u236 u237 u238 u239 u240 u241 u242 u243 u244 u245 u246 u247 u248 u249 u250 u251 u252 u253 u254 u255 u256 u257 u258 u259 u260 u261 u262 u263 u264 u265 u266 u267 u268 u269 u270 u271 u272 u273 u274 u275 u276 u277 u278 u279 u280 u281 u282 u283 u284 u285 u286 u287 u288 u289 u290 u291 u292 u293 u294 u295 u296 u297 u298 u299 u300 u301 u302 u303 u304 u305 u306 u307 u308 u309 u310 u311 u312 u313 u314 u315 u316 u317 u318 u319 u320 u321 u322 u323 u324 u325 u326 u327 u328 u329 u330 u331 u332 u333 u334 u335 u336 u337 u338 u339 u340 u341 u342 u343 u344 u345 u346 u347 u348 u349 u350 u351 u352 u353 u354 u355 u356 u357 u358 u359 u360 u361 u362 u363 u364 u365 u366 u367 u368 u369 u370 u371 u372 u373 : Value}, Below w.heap.size w w1 → w.heap.size ≤ at_ → at_ < w1.heap.size → (∀ i, i < n5 → w1.cell? ⟨at_, i, none⟩ = some (.int .i64 (att i))) →
      Code.wp Try.prog C (bodyPost Try.prog Try.f4 fun e w' => e = .returned (.bool true) ∧ Below w0.heap.size w0 w') ⟨#[.int .i64 (nT : Nat), .int .i64 (nG : Nat), .slice A2 m c2, .slice A3 m c3, .slice A4 m c4, .slice (some ⟨at_, 0, none⟩) n5 n5, .int .u8 v, .int .i64 (a : Nat), u8, u9, u10, u11, u12, u13, u14, u15, u16, u17, u18, u19, u20, u21, u22, u23, u24, u25, u26, u27, u28, u29, u30, u31, u32, u33, u34, u35, u36, u37, u38, u39, u40, u41, u42, u43, u44, u45, u46, u47, u48, u49, u50, u51, u52, u53, u54, u55, u56, u57, u58, u59, u60, u61, u62, u63, u64, u65, u66, u67, u68, u69, u70, u71, u72, u73, u74, u75, u76, u77, u78, u79, u80, u81, u82, u83, u84, u85, u86, u87, u88, u89, u90, u91, u92, u93, u94, u95, u96, u97, u98, u99, u100, u101, u102, u103, u104, u105, u106, u107, u108, u109, u110, u111, u112, u113, u114, u115, u116, u117, u118, u119, u120, u121, u122, u123, u124, u125, u126, u127, u128, u129, u130, u131, u132, u133, u134, u135, u136, u137, u138, u139, u140, u141, u142, u143, u144, u145, u146, u147, u148, u149, u150, u151, u152, u153, u154, u155, u156, u157, u158, u159, u160, u161, u162, u163, u164, u165, u166, u167, u168, u169, u170, u171, u172, u173, u174, u175, u176, u177, u178, u179, u180, u181, u182, u183, u184, u185, u186, u187, u188, u189, u190, u191, u192, u193, u194, u195, u196, u197, u198, u199, u200, u201, u202, u203, u204, u205, u206, u207, u208, u209, u210, u211, u212, u213, u214, u215, u216, u217, u218, u219, u220, u221, u222, u223, u224, u225, u226, u227, u228, u229, u230, u231, u232, u233, u234, u235, u236, u237, u238, u239, u240, u241, u242, u243, u244, u245, u246, u247, u248, u249, u250, u251, u252, u253, u254, u255, u256, u257, u258, u259, u260, u261, u262, u263, u264, u265, u266, u267, u268, u269, u270, u271, u272, u273, u274, u275, u276, u277, u278, u279, u280, u281, u282, u283, u284, u285, u286, u287, u288, u289, u290, u291, u292, u293, u294, u295, u296, u297, u298, u299, u300, u301, u302, u303, u304, u305, u306, u307, u308, u309, u310, u311, u312, u313, u314, u315, u316, u317, u318, u319, u320, u321, u322, u323, u324, u325, u326, u327, u328, u329, u330, u331, u332, u333, u334, u335, u336, u337, u338, u339, u340, u341, u342, u343, u344, u345, u346, u347, u348, u349, u350, u351, u352, u353, u354, u355, u356, u357, u358, u359, u360, u361, u362, u363, u364, u365, u366, u367, u368, u369, u370, u371, u372, u373], []⟩ w1) :
    Code.wp Try.prog (cutAt 1 (dropAt 5 (Try.f4.body.getD .skip)) C) (bodyPost Try.prog Try.f4 fun e w' => e = .returned (.bool true) ∧ Below w0.heap.size w0 w') ⟨#[.int .i64 (nT : Nat), .int .i64 (nG : Nat), .slice A2 m c2, .slice A3 m c3, .slice A4 m c4, .slice A5 n5 c5, .int .u8 v, .int .i64 (a : Nat), u8, u9, u10, u11, u12, u13, u14, u15, u16, u17, u18, u19, u20, u21, u22, u23, u24, u25, u26, u27, u28, u29, u30, u31, u32, u33, u34, u35, u36, u37, u38, u39, u40, u41, u42, u43, u44, u45, u46, u47, u48, u49, u50, u51, u52, u53, u54, u55, u56, u57, u58, u59, u60, u61, u62, u63, u64, u65, u66, u67, u68, u69, u70, u71, u72, u73, u74, u75, u76, u77, u78, u79, u80, u81, u82, u83, u84, u85, u86, u87, u88, u89, u90, u91, u92, u93, u94, u95, u96, u97, u98, u99, u100, u101, u102, u103, u104, u105, u106, u107, u108, u109, u110, u111, u112, u113, u114, u115, u116, u117, u118, u119, u120, u121, u122, u123, u124, u125, u126, u127, u128, u129, u130, u131, u132, u133, u134, u135, u136, u137, u138, u139, u140, u141, u142, u143, u144, u145, u146, u147, u148, u149, u150, u151, u152, u153, u154, u155, u156, u157, u158, u159, u160, u161, u162, u163, u164, u165, u166, u167, u168, u169, u170, u171, u172, u173, u174, u175, u176, u177, u178, u179, u180, u181, u182, u183, u184, u185, u186, u187, u188, u189, u190, u191, u192, u193, u194, u195, u196, u197, u198, u199, u200, u201, u202, u203, u204, u205, u206, u207, u208, u209, u210, u211, u212, u213, u214, u215, u216, u217, u218, u219, u220, u221, u222, u223, u224, u225, u226, u227, u228, u229, u230, u231, u232, u233, u234, u235, u236, u237, u238, u239, u240, u241, u242, u243, u244, u245, u246, u247, u248, u249, u250, u251, u252, u253, u254, u255, u256, u257, u258, u259, u260, u261, u262, u263, u264, u265, u266, u267, u268, u269, u270, u271, u272, u273, u274, u275, u276, u277, u278, u279, u280, u281, u282, u283, u284, u285, u286, u287, u288, u289, u290, u291, u292, u293, u294, u295, u296, u297, u298, u299, u300, u301, u302, u303, u304, u305, u306, u307, u308, u309, u310, u311, u312, u313, u314, u315, u316, u317, u318, u319, u320, u321, u322, u323, u324, u325, u326, u327, u328, u329, u330, u331, u332, u333, u334, u335, u336, u337, u338, u339, u340, u341, u342, u343, u344, u345, u346, u347, u348, u349, u350, u351, u352, u353, u354, u355, u356, u357, u358, u359, u360, u361, u362, u363, u364, u365, u366, u367, u368, u369, u370, u371, u372, u373], []⟩ w := by
  conv => arg 2; simp only [Try.f4, Option.getD_some, cutAt, dropAt]
  obtain ⟨b5, o5, rfl, hb5, hc5⟩ := h5.lit (by omega)
  have hq := neq25s b5 o5 n5 c5 w
  have hmk := run_make_row' (P := Try.prog) 25 3 (.int .i64 0) 8 Try.underlying25 info3 rfl .i64 .i64 n5 (by omega) (by omega)
  have hg : (w.alloc (.cells (madeCells #[.int .i64 0] n5) 3)).heap[w.heap.size]? = some (.cells (madeCells #[.int .i64 0] n5) 3 (0, 0)) := blk_alloc_new _ _
  obtain ⟨cs, hcs⟩ : ∃ cs : List Value, cs = (List.range n5).map (fun i => Value.int .i64 (att i)) := ⟨_, rfl⟩
  have hcl : cs.length = n5 := by rw [hcs]; simp
  have hca : ∀ i, i < n5 → cs[i]? = some (.int .i64 (att i)) := fun i hi => by rw [hcs]; simp [hi]
  have hsrc : ∀ j u, cs[j]? = some u → (w.alloc (.cells (madeCells #[.int .i64 0] n5) 3)).cell? ((⟨b5, o5, none⟩ : Addr).add j) = some u := by
    intro j u hj
    have hjl : j < n5 := by
      rcases Nat.lt_or_ge j n5 with h | h
      · exact h
      · rw [List.getElem?_eq_none (by omega)] at hj; cases hj
    rw [hca j hjl] at hj
    rw [addr_add, cell_older _ hb5, hc5 j hjl]
    exact hj
  have h1c : ∀ u ∈ cs, u.oneCell' = true := by
    intro u hu
    rw [hcs] at hu
    obtain ⟨i, _, rfl⟩ := List.mem_map.1 hu
    rfl
  have hfin : ∀ w1, ((w.alloc (.cells (madeCells #[.int .i64 0] n5) 3)).setRow w.heap.size (cs ++ (madeCells #[.int .i64 0] n5).toList.drop cs.length).toArray) = w1 → Below w.heap.size w w1 ∧ w.heap.size < w1.heap.size ∧ (∀ i, i < n5 → w1.cell? ⟨w.heap.size, i, none⟩ = some (.int .i64 (att i))) := by
    rintro w1 rfl
    refine ⟨below_setRow ((Below.refl _ w).alloc (Nat.le_refl _) _) (Nat.le_refl _) _, by simp [World.setRow], ?_⟩
    intro i hi
    rw [Joins.cell_of_block (setRow_heap _ _ _ _ _ _ hg)]
    simp only [List.getElem?_toArray]
    rw [List.getElem?_append_left (by omega)]
    exact hca i hi
  have HFIN : Hid (∀ w1, ((w.alloc (.cells (madeCells #[.int .i64 0] n5) 3)).setRow w.heap.size (cs ++ (madeCells #[.int .i64 0] n5).toList.drop cs.length).toArray) = w1 → Below w.heap.size w w1 ∧ w.heap.size < w1.heap.size ∧ (∀ i, i < n5 → w1.cell? ⟨w.heap.size, i, none⟩ = some (.int .i64 (att i)))) := hfin
  have HG : Hid ((w.alloc (.cells (madeCells #[.int .i64 0] n5) 3)).heap[w.heap.size]? = some (.cells (madeCells #[.int .i64 0] n5) 3 (0, 0))) := hg
  have HSRC : Hid (∀ j u, cs[j]? = some u → (w.alloc (.cells (madeCells #[.int .i64 0] n5) 3)).cell? ((⟨b5, o5, none⟩ : Addr).add j) = some u) := hsrc
  have H1C : Hid (∀ u ∈ cs, u.oneCell' = true) := h1c
  have HCL : Hid (cs.length = n5) := hcl
  have HMIN : Hid (cs.length = Nat.min n5 n5) := by rw [hcl]; exact (Nat.min_self n5).symm
  have hfit : 0 + cs.length ≤ (madeCells #[Value.int .i64 0] n5).size := by rw [hcl, size_madeCells]; omega
  have HFIT : Hid (0 + cs.length ≤ (madeCells #[Value.int .i64 0] n5).size) := hfit
  have HC : Hid _ := @hC
  clear hC hB hfin hg hsrc h1c hca hcs hc5 h5 hcl hfit
  go_wp2_with (refine wpList_copy_own rfl (.tmp 114) (.tmp 115) 25 25 rfl 3 Try.underlying25 size3 w.heap.size 0 n5 n5 ⟨b5, o5, none⟩ n5 c5 rfl rfl (madeCells #[.int .i64 0] n5) 3 HG.out cs HMIN.out HSRC.out HFIT.out H1C.out ?_)
  obtain ⟨w1, hw1⟩ : ∃ w1, ((w.alloc (.cells (madeCells #[.int .i64 0] n5) 3)).setRow w.heap.size (cs ++ (madeCells #[.int .i64 0] n5).toList.drop cs.length).toArray) = w1 := ⟨_, rfl⟩
  obtain ⟨p1, p2, p3⟩ := HFIN.out w1 hw1
  rw [hw1]
  exact HC.out w.heap.size w1 p1 (Nat.le_refl _) p2 p3

set_option maxHeartbeats 4000000 in
set_option maxRecDepth 100000 in
theorem dPhaseC (C : Code) (w0 w : World) (nT nG a m : Nat) (v : Int) (A2 A3 A4 : Option Addr) (c2 c3 c4 n5 at_ : Nat) (tx gs : Nat → Int) (rl : Nat → Bool) (hB : Below w0.heap.size w0 w) (h2 : Cells w A2 m (fun i => .int .i64 (tx i))) (h3 : Cells w A3 m (fun i => .int .i64 (gs i))) (h4 : Cells w A4 m (fun i => .bool (rl i)))
    (hm : m ≤ 4096) (hnT : nT ≤ 4096) (hnG : nG ≤ 65536) (hw2 : ∀ i, i < m → In64 (tx i)) (hw3 : ∀ i, i < m → In64 (gs i))
    {u8 u9 u10 u11 u12 u13 u14 u15 u16 u17 u18 u19 u20 u21 u22 u23 u24 u25 u26 u27 u28 u29 u30 u31 u32 u33 u34 u35 u36 u37 u38 u39 u40 u41 u42 u43 u44 u45 u46 u47 u48 u49 u50 u51 u52 u53 u54 u55 u56 u57 u58 u59 u60 u61 u62 u63 u64 u65 u66 u67 u68 u69 u70 u71 u72 u73 u74 u75 u76 u77 u78 u79 u80 u81 u82 u83 u84 u85 u86 u87 u88 u89 u90 u91 u92 u93 u94 u95 u96 u97 u98 u99 u100 u101 u102 u103 u104 u105 u106 u107 u108 u109 u110 u111 u112 u113 u114 u115 u116 u117 u118 u119 u120 u121 u122 u123 u124 u125 u126 u127 u128 u129 u130 u131 u132 u133 u134 u135 u136 u137 u138 u139 u140 u141 u142 u143 u144 u145 u146 u147 u148 u149 u150 u151 u152 u153 u154 u155 u156 u157 u158 u159 u160 u161 u162 u163 u164 u165 u166 u167 u168 u169 u170 u171 u172 u173 u174 u175 u176 u177 u178 u179 u180 u181 u182 u183 u184 u185 u186 u187 u188 u189 u190 u191 u192 u193 u194 u195 u196 u197 u198 u199 u200 u201 u202 u203 u204 u205 u206 u207 u208 u209 u210 u211 u212 u213 u214 u215 u216 u217 u218 u219 u220 u221 u222 u223 u224 u225 u226 u227 u228 u229 u230 u231 u232 u233 u234 u235 u236 u237 u238 u239 u240 u241 u242 u243 u244 u245 u246 u247 u248 u249 u250 u251 u252 u253 u254 u255 u256 u257 u258 u259 u260 u261 u262 u263 u264 u265 u266 u267 u268 u269 u270 u271 u272 u273 u274 u275 u276 u277 u278 u279 u280 u281 u282 u283 u284 u285 u286 u287 u288 u289 u290 u291 u292 u293 u294 u295 u296 u297 u298 u299 u300 u301 u302 u303 u304 u305 u306 u307 u308 u309 u310 u311 u312 u313 u314 u315 u316 u317 u318 u319 u320 u321 u322 u323 u324 u325 u326 u327 u328 u329 u330 u331 u332 u333 u334 u335 u336 u337 u338 u339 u340 u341 u342 u343 u344 u345 u346 u347 u348 u349 u350 u351 u352 u353 u354 u355 u356 u357 u358 u359 u360 u361 u362 u363 u364 u365 u366 u367 u368 u369 u370 u371 u372 u373 : Value}
    (hC : ∀ {u8 u9 u10 u11 u12 u13 u14 u15 u16 u17 u18 u19 u20 u21 u22 u23 u24 u25 u26 u27 u28 u29 u30 u31 u32 u33 u34 u35 u36 u37 u38 u39 u40 u41 u42 u43 u44 u45 u46 u47 u48 u49 u50 u51 u52 u53 u54 u55 u56 u57 u58 u59 u60 u61 u62 u63 u64 u65 u66 u67 u68 u69 u70 u71 u72 u73 u74 u75 u76 u77 u78 u79 u80 u81 u82 u83 u84 u85 u86 u87 u88 u89 u90 u91 u92 u93 u94 u95 u96 u97 u98 u99 u100 u101 u102 u103 u104 u105 u106 u107 u108 u109 u110 u111 u112 u113 u114 u115 u116 u117 u118 u119 u120 u121 u122 u123 u124 u125 u126 u127 u128 u129 u130 u131 u132 u133 u134 u135 u136 u137 u138 u139 u140 u141 u142 u143 u144 u145 u146 u147 u148 u149 u150 u151 u152 u153 u154 u155 u156 u157 u158 u159 u160 u161 u162 u163 u164 u165 u166 u167 u168 u169 u170 u171 u172 u173 u174 u175 u176 u177 u178 u179 u180 u181 u182 u183 u184 u185 u186 u187 u188 u189 u190 u191 u192 u193 u194 u195 u196 u197 u198 u199 u200 u201 u202 u203 u204 u205 u206 u207 u208 u209 u210 u211 u212 u213 u214 u215 u216 u217 u218 u219 u220 u221 u222 u223 u224 u225 u226 u227 u228 u229 u230 u231 u232 u233 u234 u235 u236 u237 u238 u239 u240 u241 u242 u243 u244 u245 u246 u247 u248 u249 u250 u251 u252 u253 u254 u255 u256 u257 u258 u259 u260 u261 u262 u263 u264 u265 u266 u267 u268 u269 u270 u271 u272 u273 u274 u275 u276 u277 u278 u279 u280 u281 u282 u283 u284 u285 u286 u287 u288 u289 u290 u291 u292 u293 u294 u295 u296 u297 u298 u299 u300 u301 u302 u303 u304 u305 u306 u307 u308 u309 u310 u311 u312 u313 u314 u315 u316 u317 u318 u319 u320 u321 u322 u323 u324 u325 u326 u327 u328 u329 u330 u331 u332 u333 u334 u335 u336 u337 u338 u339 u340 u341 u342 u343 u344 u345 u346 u347 u348 u349 u350 u351 u352 u353 u354 u355 u356 u357 u358 u359 u360 u361 u362 u363 u364 u365 u366 u367 u368 u369 u370 u371 u372 u373 : Value}, (∀ i, i < m → 0 ≤ tx i ∧ tx i < nT ∧ (rl i = false → 0 ≤ gs i ∧ gs i < nG)) →
      Code.wp Try.prog C (bodyPost Try.prog Try.f4 fun e w' => e = .returned (.bool true) ∧ Below w0.heap.size w0 w') ⟨#[.int .i64 (nT : Nat), .int .i64 (nG : Nat), .slice A2 m c2, .slice A3 m c3, .slice A4 m c4, .slice (some ⟨at_, 0, none⟩) n5 n5, .int .u8 v, .int .i64 (a : Nat), u8, u9, u10, u11, u12, u13, u14, u15, u16, u17, u18, u19, u20, u21, u22, u23, u24, u25, u26, u27, u28, u29, u30, u31, u32, u33, u34, u35, u36, u37, u38, u39, u40, u41, u42, u43, u44, u45, u46, u47, u48, u49, u50, u51, u52, u53, u54, u55, u56, u57, u58, u59, u60, u61, u62, u63, u64, u65, u66, u67, u68, u69, u70, u71, u72, u73, u74, u75, u76, u77, u78, u79, u80, u81, u82, u83, u84, u85, u86, u87, u88, u89, u90, u91, u92, u93, u94, u95, u96, u97, u98, u99, u100, u101, u102, u103, u104, u105, u106, u107, u108, u109, u110, u111, u112, u113, u114, u115, u116, u117, u118, u119, u120, u121, u122, u123, u124, u125, u126, u127, u128, u129, u130, u131, u132, u133, u134, u135, u136, u137, u138, u139, u140, u141, u142, u143, u144, u145, u146, u147, u148, u149, u150, u151, u152, u153, u154, u155, u156, u157, u158, u159, u160, u161, u162, u163, u164, u165, u166, u167, u168, u169, u170, u171, u172, u173, u174, u175, u176, u177, u178, u179, u180, u181, u182, u183, u184, u185, u186, u187, u188, u189, u190, u191, u192, u193, u194, u195, u196, u197, u198, u199, u200, u201, u202, u203, u204, u205, u206, u207, u208, u209, u210, u211, u212, u213, u214, u215, u216, u217, u218, u219, u220, u221, u222, u223, u224, u225, u226, u227, u228, u229, u230, u231, u232, u233, u234, u235, u236, u237, u238, u239, u240, u241, u242, u243, u244, u245, u246, u247, u248, u249, u250, u251, u252, u253, u254, u255, u256, u257, u258, u259, u260, u261, u262, u263, u264, u265, u266, u267, u268, u269, u270, u271, u272, u273, u274, u275, u276, u277, u278, u279, u280, u281, u282, u283, u284, u285, u286, u287, u288, u289, u290, u291, u292, u293, u294, u295, u296, u297, u298, u299, u300, u301, u302, u303, u304, u305, u306, u307, u308, u309, u310, u311, u312, u313, u314, u315, u316, u317, u318, u319, u320, u321, u322, u323, u324, u325, u326, u327, u328, u329, u330, u331, u332, u333, u334, u335, u336, u337, u338, u339, u340, u341, u342, u343, u344, u345, u346, u347, u348, u349, u350, u351, u352, u353, u354, u355, u356, u357, u358, u359, u360, u361, u362, u363, u364, u365, u366, u367, u368, u369, u370, u371, u372, u373], []⟩ w) :
    Code.wp Try.prog (cutAt 1 (dropAt 6 (Try.f4.body.getD .skip)) C) (bodyPost Try.prog Try.f4 fun e w' => e = .returned (.bool true) ∧ Below w0.heap.size w0 w') ⟨#[.int .i64 (nT : Nat), .int .i64 (nG : Nat), .slice A2 m c2, .slice A3 m c3, .slice A4 m c4, .slice (some ⟨at_, 0, none⟩) n5 n5, .int .u8 v, .int .i64 (a : Nat), u8, u9, u10, u11, u12, u13, u14, u15, u16, u17, u18, u19, u20, u21, u22, u23, u24, u25, u26, u27, u28, u29, u30, u31, u32, u33, u34, u35, u36, u37, u38, u39, u40, u41, u42, u43, u44, u45, u46, u47, u48, u49, u50, u51, u52, u53, u54, u55, u56, u57, u58, u59, u60, u61, u62, u63, u64, u65, u66, u67, u68, u69, u70, u71, u72, u73, u74, u75, u76, u77, u78, u79, u80, u81, u82, u83, u84, u85, u86, u87, u88, u89, u90, u91, u92, u93, u94, u95, u96, u97, u98, u99, u100, u101, u102, u103, u104, u105, u106, u107, u108, u109, u110, u111, u112, u113, u114, u115, u116, u117, u118, u119, u120, u121, u122, u123, u124, u125, u126, u127, u128, u129, u130, u131, u132, u133, u134, u135, u136, u137, u138, u139, u140, u141, u142, u143, u144, u145, u146, u147, u148, u149, u150, u151, u152, u153, u154, u155, u156, u157, u158, u159, u160, u161, u162, u163, u164, u165, u166, u167, u168, u169, u170, u171, u172, u173, u174, u175, u176, u177, u178, u179, u180, u181, u182, u183, u184, u185, u186, u187, u188, u189, u190, u191, u192, u193, u194, u195, u196, u197, u198, u199, u200, u201, u202, u203, u204, u205, u206, u207, u208, u209, u210, u211, u212, u213, u214, u215, u216, u217, u218, u219, u220, u221, u222, u223, u224, u225, u226, u227, u228, u229, u230, u231, u232, u233, u234, u235, u236, u237, u238, u239, u240, u241, u242, u243, u244, u245, u246, u247, u248, u249, u250, u251, u252, u253, u254, u255, u256, u257, u258, u259, u260, u261, u262, u263, u264, u265, u266, u267, u268, u269, u270, u271, u272, u273, u274, u275, u276, u277, u278, u279, u280, u281, u282, u283, u284, u285, u286, u287, u288, u289, u290, u291, u292, u293, u294, u295, u296, u297, u298, u299, u300, u301, u302, u303, u304, u305, u306, u307, u308, u309, u310, u311, u312, u313, u314, u315, u316, u317, u318, u319, u320, u321, u322, u323, u324, u325, u326, u327, u328, u329, u330, u331, u332, u333, u334, u335, u336, u337, u338, u339, u340, u341, u342, u343, u344, u345, u346, u347, u348, u349, u350, u351, u352, u353, u354, u355, u356, u357, u358, u359, u360, u361, u362, u363, u364, u365, u366, u367, u368, u369, u370, u371, u372, u373], []⟩ w := by
  conv => arg 2; simp only [Try.f4, Option.getD_some, cutAt, dropAt]
  have HC : Hid _ := @hC
  have H2 : Hid (Cells w A2 m (fun i => .int .i64 (tx i))) := h2
  have H3 : Hid (Cells w A3 m (fun i => .int .i64 (gs i))) := h3
  have H4 : Hid (Cells w A4 m (fun i => .bool (rl i))) := h4
  have HW2 : Hid (∀ i, i < m → In64 (tx i)) := hw2
  have HW3 : Hid (∀ i, i < m → In64 (gs i)) := hw3
  have HB : Hid (Below w0.heap.size w0 w) := hB
  clear hC h2 h3 h4 hw2 hw3 hB
  go_wp2_with fail
  go_loop [18] (fun i => ∃ (k : Nat), k ≤ m ∧ i = .int .i64 k ∧ ∀ r, r < k → 0 ≤ tx r ∧ tx r < nT ∧ (rl r = false → 0 ≤ gs r ∧ gs r < nG)) (fun i => m - (intOf i).toNat)
  case atStart => exact ⟨0, Nat.zero_le _, rfl, fun r hr => by omega⟩
  case round =>
    obtain ⟨k, hk, rfl, hO⟩ := hrel
    have HO : Hid (∀ r, r < k → 0 ≤ tx r ∧ tx r < nT ∧ (rl r = false → 0 ≤ gs r ∧ gs r < nG)) := hO
    clear hO
    by_cases hlt : k < m
    · obtain ⟨b2, o2, rfl, _, hc2⟩ := H2.out.lit (by omega)
      obtain ⟨b3, o3, rfl, _, hc3⟩ := H3.out.lit (by omega)
      obtain ⟨b4, o4, rfl, _, hc4⟩ := H4.out.lit (by omega)
      have d2 := hc2 k hlt
      have d3 := hc3 k hlt
      have d4 := hc4 k hlt
      have e2 := HW2.out k hlt
      have e3 := HW3.out k hlt
      unfold In64 at e2 e3
      obtain ⟨t, ht⟩ : ∃ t, tx k = t := ⟨_, rfl⟩
      obtain ⟨g, hg⟩ : ∃ g, gs k = g := ⟨_, rfl⟩
      rw [ht] at d2 e2
      rw [hg] at d3 e3
      have HT : Hid (tx k = t) := ht
      have HG : Hid (gs k = g) := hg
      clear hc2 hc3 hc4 H2 H3 H4 HW2 HW3 HC ht hg
      cases hr : rl k with
      | true =>
        rw [hr] at d4
        have HR : Hid (rl k = true) := hr
        clear hr
        go_wp2
        all_goals try (go_ret; exact ⟨rfl, HB.out⟩)
        · go_round
          case rel => exact ⟨k + 1, by omega, by go_num, fun r hr => by
            by_cases e : r = k
            · subst e; rw [HT.out, HR.out]; exact ⟨by omega, by omega, fun h => by cases h⟩
            · exact HO.out r (by omega)⟩
          case measure => simp [intOf]; omega
      | false =>
        rw [hr] at d4
        have HR : Hid (rl k = false) := hr
        clear hr
        go_wp2
        all_goals try (go_ret; exact ⟨rfl, HB.out⟩)
        · go_round
          case rel => exact ⟨k + 1, by omega, by go_num, fun r hr => by
            by_cases e : r = k
            · subst e; rw [HT.out, HG.out]; exact ⟨by omega, by omega, fun h => by omega⟩
            · exact HO.out r (by omega)⟩
          case measure => simp [intOf]; omega
    · go_wp2
      exact HC.out (fun i hi => HO.out i (by omega))
end Go.Proofs.Qxb6616109a
