import Derived.Test.Qxb6616109aDmN
namespace Go.Proofs.Qxb6616109a
open Go.RowKit Go.Deep Go.Joins
set_option linter.unusedSimpArgs false
set_option linter.unusedVariables false

set_option maxHeartbeats 8000000 in
set_option maxRecDepth 100000 in
theorem dPhaseF (C : Code) (w0 wD w : World) (B : Bk) (N hb ob wb nT nG a m : Nat) (v : Int) (A2 A3 A4 : Option Addr) (c2 c3 c4 n5 at_ : Nat) (hnT : nT ≤ 4096) (hnG : nG ≤ 65536) (ha : a < nT)
    (V : Nat → Nat → Value) (X : Nat → Nat → List Value) (md : Nat → Int) (H rq : Nat → Option Nat) (L : Nat → List Nat) (h : Lw wD w B N nT nG hb ob wb V X md H rq L)
    {u8 u9 u10 u11 u12 u13 u14 u15 u16 u17 u18 u21 u24 u25 u26 u27 u28 u29 u30 u31 u32 u33 u34 u35 u36 u37 u38 u39 u40 u41 u42 u43 u44 u45 u46 u47 u48 u49 u50 u51 u52 u53 u54 u55 u56 u57 u58 u59 u60 u61 u62 u63 u64 u65 u66 u67 u68 u69 u70 u71 u72 u73 u74 u75 u76 u77 u78 u79 u80 u81 u82 u83 u84 u85 u86 u87 u88 u89 u90 u91 u92 u93 u94 u95 u96 u97 u98 u99 u100 u101 u102 u103 u104 u105 u106 u107 u108 u109 u110 u111 u112 u113 u114 u115 u116 u117 u118 u119 u120 u121 u122 u123 u124 u125 u126 u127 u128 u129 u130 u131 u132 u133 u134 u135 u136 u137 u138 u139 u140 u141 u142 u143 u144 u145 u146 u147 u148 u149 u150 u151 u152 u153 u154 u155 u156 u157 u158 u159 u160 u161 u162 u163 u164 u165 u166 u167 u168 u169 u170 u171 u172 u173 u174 u175 u176 u177 u178 u179 u180 u181 u182 u183 u184 u185 u186 u187 u188 u189 u190 u191 u192 u193 u194 u195 u196 u197 u198 u199 u200 u201 u202 u203 u204 u205 u206 u207 u208 u209 u210 u211 u212 u213 u214 u215 u216 u217 u218 u219 u220 u221 u222 u223 u224 u225 u226 u227 u228 u229 u230 u231 u232 u233 u234 u235 u236 u237 u238 u239 u240 u241 u242 u243 u244 u245 u246 u247 u248 u249 u250 u251 u252 u253 u254 u255 u256 u257 u258 u259 u260 u261 u262 u263 u264 u265 u266 u267 u268 u269 u270 u271 u272 u273 u274 u275 u276 u277 u278 u279 u280 u281 u282 u283 u284 u285 u286 u287 u288 u289 u290 u291 u292 u293 u294 u295 u296 u297 u298 u299 u300 u301 u302 u303 u304 u305 u306 u307 u308 u309 u310 u311 u312 u313 u314 u315 u316 u317 u318 u319 u320 u321 u322 u323 u324 u325 u326 u327 u328 u329 u330 u331 u332 u333 u334 u335 u336 u337 u338 u339 u340 u341 u342 u343 u344 u345 u346 u347 u348 u349 u350 u351 u352 u353 u354 u355 u356 u357 u358 u359 u360 u361 u362 u363 u364 u365 u366 u367 u368 u369 u370 u371 u372 u373 : Value}
    (hC : ∀ (w1 : World) (A : Option Addr) (c : Nat) {u8 u9 u10 u11 u12 u13 u14 u15 u16 u17 u18 u21 u24 u25 u26 u27 u28 u29 u32 u33 u34 u35 u36 u37 u38 u39 u40 u41 u42 u43 u44 u45 u46 u47 u48 u49 u50 u51 u52 u53 u54 u55 u56 u57 u58 u59 u60 u61 u62 u63 u64 u65 u66 u67 u68 u69 u70 u71 u72 u73 u74 u75 u76 u77 u78 u79 u80 u81 u82 u83 u84 u85 u86 u87 u88 u89 u90 u91 u92 u93 u94 u95 u96 u97 u98 u99 u100 u101 u102 u103 u104 u105 u106 u107 u108 u109 u110 u111 u112 u113 u114 u115 u116 u117 u118 u119 u120 u121 u122 u123 u124 u125 u126 u127 u128 u129 u130 u131 u132 u133 u134 u135 u136 u137 u138 u139 u140 u141 u142 u143 u144 u145 u146 u147 u148 u149 u150 u151 u152 u153 u154 u155 u156 u157 u158 u159 u160 u161 u162 u163 u164 u165 u166 u167 u168 u169 u170 u171 u172 u173 u174 u175 u176 u177 u178 u179 u180 u181 u182 u183 u184 u185 u186 u187 u188 u189 u190 u191 u192 u193 u194 u195 u196 u197 u198 u199 u200 u201 u202 u203 u204 u205 u206 u207 u208 u209 u210 u211 u212 u213 u214 u215 u216 u217 u218 u219 u220 u221 u222 u223 u224 u225 u226 u227 u228 u229 u230 u231 u232 u233 u234 u235 u236 u237 u238 u239 u240 u241 u242 u243 u244 u245 u246 u247 u248 u249 u250 u251 u252 u253 u254 u255 u256 u257 u258 u259 u260 u261 u262 u263 u264 u265 u266 u267 u268 u269 u270 u271 u272 u273 u274 u275 u276 u277 u278 u279 u280 u281 u282 u283 u284 u285 u286 u287 u288 u289 u290 u291 u292 u293 u294 u295 u296 u297 u298 u299 u300 u301 u302 u303 u304 u305 u306 u307 u308 u309 u310 u311 u312 u313 u314 u315 u316 u317 u318 u319 u320 u321 u322 u323 u324 u325 u326 u327 u328 u329 u330 u331 u332 u333 u334 u335 u336 u337 u338 u339 u340 u341 u342 u343 u344 u345 u346 u347 u348 u349 u350 u351 u352 u353 u354 u355 u356 u357 u358 u359 u360 u361 u362 u363 u364 u365 u366 u367 u368 u369 u370 u371 u372 u373 : Value}, Below w.heap.size w w1 → w1.ownsRow w.heap.size 3 1 (.slice A (lawW (nxOf H rq) a nT [a]).1.length c) (lawW (nxOf H rq) a nT [a]).1.length (ic (lawW (nxOf H rq) a nT [a]).1) →
      Code.wp Try.prog C (bodyPost Try.prog Try.f4 fun e w' => e = .returned (.bool true) ∧ Below w0.heap.size w0 w') ⟨#[.int .i64 (nT : Nat), .int .i64 (nG : Nat), .slice A2 m c2, .slice A3 m c3, .slice A4 m c4, .slice (some ⟨at_, 0, none⟩) n5 n5, .int .u8 v, .int .i64 (a : Nat), u8, u9, u10, u11, u12, u13, u14, u15, u16, u17, u18, .pointer (some ⟨B.p, 0, none⟩), .slice (some ⟨hb, 0, none⟩) nG nG, u21, .slice (some ⟨ob, 0, none⟩) nT nT, .slice (some ⟨wb, 0, none⟩) nT nT, u24, u25, u26, u27, u28, u29, .slice A (lawW (nxOf H rq) a nT [a]).1.length c, .bool (lawW (nxOf H rq) a nT [a]).2, u32, u33, u34, u35, u36, u37, u38, u39, u40, u41, u42, u43, u44, u45, u46, u47, u48, u49, u50, u51, u52, u53, u54, u55, u56, u57, u58, u59, u60, u61, u62, u63, u64, u65, u66, u67, u68, u69, u70, u71, u72, u73, u74, u75, u76, u77, u78, u79, u80, u81, u82, u83, u84, u85, u86, u87, u88, u89, u90, u91, u92, u93, u94, u95, u96, u97, u98, u99, u100, u101, u102, u103, u104, u105, u106, u107, u108, u109, u110, u111, u112, u113, u114, u115, u116, u117, u118, u119, u120, u121, u122, u123, u124, u125, u126, u127, u128, u129, u130, u131, u132, u133, u134, u135, u136, u137, u138, u139, u140, u141, u142, u143, u144, u145, u146, u147, u148, u149, u150, u151, u152, u153, u154, u155, u156, u157, u158, u159, u160, u161, u162, u163, u164, u165, u166, u167, u168, u169, u170, u171, u172, u173, u174, u175, u176, u177, u178, u179, u180, u181, u182, u183, u184, u185, u186, u187, u188, u189, u190, u191, u192, u193, u194, u195, u196, u197, u198, u199, u200, u201, u202, u203, u204, u205, u206, u207, u208, u209, u210, u211, u212, u213, u214, u215, u216, u217, u218, u219, u220, u221, u222, u223, u224, u225, u226, u227, u228, u229, u230, u231, u232, u233, u234, u235, u236, u237, u238, u239, u240, u241, u242, u243, u244, u245, u246, u247, u248, u249, u250, u251, u252, u253, u254, u255, u256, u257, u258, u259, u260, u261, u262, u263, u264, u265, u266, u267, u268, u269, u270, u271, u272, u273, u274, u275, u276, u277, u278, u279, u280, u281, u282, u283, u284, u285, u286, u287, u288, u289, u290, u291, u292, u293, u294, u295, u296, u297, u298, u299, u300, u301, u302, u303, u304, u305, u306, u307, u308, u309, u310, u311, u312, u313, u314, u315, u316, u317, u318, u319, u320, u321, u322, u323, u324, u325, u326, u327, u328, u329, u330, u331, u332, u333, u334, u335, u336, u337, u338, u339, u340, u341, u342, u343, u344, u345, u346, u347, u348, u349, u350, u351, u352, u353, u354, u355, u356, u357, u358, u359, u360, u361, u362, u363, u364, u365, u366, u367, u368, u369, u370, u371, u372, u373], []⟩ w1) :
    Code.wp Try.prog (cutAt 4 (dropAt 14 (Try.f4.body.getD .skip)) C) (bodyPost Try.prog Try.f4 fun e w' => e = .returned (.bool true) ∧ Below w0.heap.size w0 w') ⟨#[.int .i64 (nT : Nat), .int .i64 (nG : Nat), .slice A2 m c2, .slice A3 m c3, .slice A4 m c4, .slice (some ⟨at_, 0, none⟩) n5 n5, .int .u8 v, .int .i64 (a : Nat), u8, u9, u10, u11, u12, u13, u14, u15, u16, u17, u18, .pointer (some ⟨B.p, 0, none⟩), .slice (some ⟨hb, 0, none⟩) nG nG, u21, .slice (some ⟨ob, 0, none⟩) nT nT, .slice (some ⟨wb, 0, none⟩) nT nT, u24, u25, u26, u27, u28, u29, u30, u31, u32, u33, u34, u35, u36, u37, u38, u39, u40, u41, u42, u43, u44, u45, u46, u47, u48, u49, u50, u51, u52, u53, u54, u55, u56, u57, u58, u59, u60, u61, u62, u63, u64, u65, u66, u67, u68, u69, u70, u71, u72, u73, u74, u75, u76, u77, u78, u79, u80, u81, u82, u83, u84, u85, u86, u87, u88, u89, u90, u91, u92, u93, u94, u95, u96, u97, u98, u99, u100, u101, u102, u103, u104, u105, u106, u107, u108, u109, u110, u111, u112, u113, u114, u115, u116, u117, u118, u119, u120, u121, u122, u123, u124, u125, u126, u127, u128, u129, u130, u131, u132, u133, u134, u135, u136, u137, u138, u139, u140, u141, u142, u143, u144, u145, u146, u147, u148, u149, u150, u151, u152, u153, u154, u155, u156, u157, u158, u159, u160, u161, u162, u163, u164, u165, u166, u167, u168, u169, u170, u171, u172, u173, u174, u175, u176, u177, u178, u179, u180, u181, u182, u183, u184, u185, u186, u187, u188, u189, u190, u191, u192, u193, u194, u195, u196, u197, u198, u199, u200, u201, u202, u203, u204, u205, u206, u207, u208, u209, u210, u211, u212, u213, u214, u215, u216, u217, u218, u219, u220, u221, u222, u223, u224, u225, u226, u227, u228, u229, u230, u231, u232, u233, u234, u235, u236, u237, u238, u239, u240, u241, u242, u243, u244, u245, u246, u247, u248, u249, u250, u251, u252, u253, u254, u255, u256, u257, u258, u259, u260, u261, u262, u263, u264, u265, u266, u267, u268, u269, u270, u271, u272, u273, u274, u275, u276, u277, u278, u279, u280, u281, u282, u283, u284, u285, u286, u287, u288, u289, u290, u291, u292, u293, u294, u295, u296, u297, u298, u299, u300, u301, u302, u303, u304, u305, u306, u307, u308, u309, u310, u311, u312, u313, u314, u315, u316, u317, u318, u319, u320, u321, u322, u323, u324, u325, u326, u327, u328, u329, u330, u331, u332, u333, u334, u335, u336, u337, u338, u339, u340, u341, u342, u343, u344, u345, u346, u347, u348, u349, u350, u351, u352, u353, u354, u355, u356, u357, u358, u359, u360, u361, u362, u363, u364, u365, u366, u367, u368, u369, u370, u371, u372, u373], []⟩ w := by
  conv => arg 2; simp only [Try.f4, Option.getD_some, cutAt, dropAt]
  have HC : Hid _ := @hC
  have HH : Hid (Lw wD w B N nT nG hb ob wb V X md H rq L) := h
  obtain ⟨res, hres⟩ : ∃ res, lawW (nxOf H rq) a nT [a] = res := ⟨_, rfl⟩
  obtain ⟨bw, hbw⟩ : ∃ bw, w.heap.size = bw := ⟨_, rfl⟩
  have hord := h.lx.ord
  have hNs := h.lx.lk.size
  have hB1 : Below w.heap.size w (w.alloc (.cells #[.int .i64 (a : Int)] 3)) := (Below.refl _ _).alloc (Nat.le_refl _) _
  have ho1 : (w.alloc (.cells #[.int .i64 (a : Int)] 3)).ownsRow w.heap.size 3 1 (.slice (some ⟨w.heap.size, 0, none⟩) 1 1) 1 (ic [a]) :=
    ⟨rfl, .inr ⟨w.heap.size, 1, _, rfl, Nat.le_refl _, blk_alloc_new _ _, Nat.le_refl _, by simp only [maxLen]; omega, rfl, rfl⟩⟩
  obtain ⟨w1, hw1⟩ : ∃ w1, w.alloc (.cells #[.int .i64 (a : Int)] 3) = w1 := ⟨_, rfl⟩
  rw [hw1] at hB1 ho1
  have HW1 : Hid (w.alloc (.cells #[.int .i64 (a : Int)] 3) = w1) := hw1
  rw [hbw] at hB1 ho1 hNs
  have HB1 : Hid (Below bw w w1) := hB1
  have HO1 : Hid (w1.ownsRow bw 3 1 (.slice (some ⟨bw, 0, none⟩) 1 1) 1 (ic [a])) := ho1
  have HRES : Hid (lawW (nxOf H rq) a nT [a] = res) := hres
  clear hC h hB1 ho1 hw1 hres
  go_wp2_with fail
  rw [HW1.out]
  go_loopw [30, 31, 32, 33] (fun cy on u st wr => ∃ (P : List Nat) (f x : Nat) (A : Option Addr) (c : Nat), f ≤ nT ∧ 0 < P.length ∧ P.length + f = nT + 1 ∧ P.getLastD a = x ∧ x < nT ∧ lawW (nxOf H rq) a f P = res ∧ cy = .slice A P.length c ∧ on = .bool false ∧ u = .int .i64 (x : Nat) ∧ st = .int .i64 ((nT : Int) - (f : Int)) ∧ wr.ownsRow bw 3 1 (.slice A P.length c) P.length (ic P) ∧ Below bw w wr) (fun _ _ _ st _ => nT - (intOf st).toNat)
  case atStart => exact ⟨[a], nT, a, some ⟨bw, 0, none⟩, 1, Nat.le_refl _, by simp, by simp; omega, rfl, ha, HRES.out, rfl, rfl, rfl, by simp, HO1.out, HB1.out⟩
  case round =>
    clear HW1 HB1 HO1
    obtain ⟨P, f, x, A, c, hf, hP, hPf, hlast, hx, hlaw, rfl, rfl, rfl, rfl, hown, hB⟩ := hrel
    have HB : Hid (Below bw w wr) := hB
    have HOWN : Hid (wr.ownsRow bw 3 1 (.slice A P.length c) P.length (ic P)) := hown
    have HLAW : Hid (lawW (nxOf H rq) a f P = res) := hlaw
    have hbs : bw ≤ wr.heap.size := by rw [← hbw]; exact hB.size
    by_cases hf0 : f = 0
    · subst hf0
      have t1 : decide ((nT : Int) - ((0 : Nat) : Int) < (nT : Int)) = false := decide_eq_false (by omega)
      clear hlaw hown hB
      go_wp2_with fail
      have e1 := HLAW.out
      rw [lawW] at e1
      have e2 := HRES.out
      rw [← e1] at e2
      have hc0 := HC.out
      have hc := @hc0 wr A c
      rw [e2, hbw] at hc
      exact hc HB.out HOWN.out
    · obtain ⟨f', rfl⟩ : ∃ f', f = f' + 1 := ⟨f - 1, by omega⟩
      have t1 : decide ((nT : Int) - ((f' + 1 : Nat) : Int) < (nT : Int)) = true := decide_eq_true (by omega)
      have hstep : (nT : Int) - ((f' + 1 : Nat) : Int) + 1 = (nT : Int) - (f' : Int) := by omega
      have hcw : wr.cell? ⟨wb, x, none⟩ = some (.int .i64 (nv (rq x))) := (World.cell?_of_block (hB.block wb (by omega))).trans (HH.out.lx.rw_.cell hx)
      have hch : ∀ g, g < nG → wr.cell? ⟨hb, g, none⟩ = some (.int .i64 (nv (H g))) := fun g hg => (World.cell?_of_block (hB.block hb (by omega))).trans (HH.out.lx.rh.cell hg)
      rw [lawW, hlast] at hlaw
      have hdone : nxOf H rq x = [] → ∀ {u8 u9 u10 u11 u12 u13 u14 u15 u16 u17 u18 u21 u24 u25 u26 u27 u28 u29 u32 u33 u34 u35 u36 u37 u38 u39 u40 u41 u42 u43 u44 u45 u46 u47 u48 u49 u50 u51 u52 u53 u54 u55 u56 u57 u58 u59 u60 u61 u62 u63 u64 u65 u66 u67 u68 u69 u70 u71 u72 u73 u74 u75 u76 u77 u78 u79 u80 u81 u82 u83 u84 u85 u86 u87 u88 u89 u90 u91 u92 u93 u94 u95 u96 u97 u98 u99 u100 u101 u102 u103 u104 u105 u106 u107 u108 u109 u110 u111 u112 u113 u114 u115 u116 u117 u118 u119 u120 u121 u122 u123 u124 u125 u126 u127 u128 u129 u130 u131 u132 u133 u134 u135 u136 u137 u138 u139 u140 u141 u142 u143 u144 u145 u146 u147 u148 u149 u150 u151 u152 u153 u154 u155 u156 u157 u158 u159 u160 u161 u162 u163 u164 u165 u166 u167 u168 u169 u170 u171 u172 u173 u174 u175 u176 u177 u178 u179 u180 u181 u182 u183 u184 u185 u186 u187 u188 u189 u190 u191 u192 u193 u194 u195 u196 u197 u198 u199 u200 u201 u202 u203 u204 u205 u206 u207 u208 u209 u210 u211 u212 u213 u214 u215 u216 u217 u218 u219 u220 u221 u222 u223 u224 u225 u226 u227 u228 u229 u230 u231 u232 u233 u234 u235 u236 u237 u238 u239 u240 u241 u242 u243 u244 u245 u246 u247 u248 u249 u250 u251 u252 u253 u254 u255 u256 u257 u258 u259 u260 u261 u262 u263 u264 u265 u266 u267 u268 u269 u270 u271 u272 u273 u274 u275 u276 u277 u278 u279 u280 u281 u282 u283 u284 u285 u286 u287 u288 u289 u290 u291 u292 u293 u294 u295 u296 u297 u298 u299 u300 u301 u302 u303 u304 u305 u306 u307 u308 u309 u310 u311 u312 u313 u314 u315 u316 u317 u318 u319 u320 u321 u322 u323 u324 u325 u326 u327 u328 u329 u330 u331 u332 u333 u334 u335 u336 u337 u338 u339 u340 u341 u342 u343 u344 u345 u346 u347 u348 u349 u350 u351 u352 u353 u354 u355 u356 u357 u358 u359 u360 u361 u362 u363 u364 u365 u366 u367 u368 u369 u370 u371 u372 u373 : Value}, Code.wp Try.prog C (bodyPost Try.prog Try.f4 fun e w' => e = .returned (.bool true) ∧ Below w0.heap.size w0 w') ⟨#[.int .i64 (nT : Nat), .int .i64 (nG : Nat), .slice A2 m c2, .slice A3 m c3, .slice A4 m c4, .slice (some ⟨at_, 0, none⟩) n5 n5, .int .u8 v, .int .i64 (a : Nat), u8, u9, u10, u11, u12, u13, u14, u15, u16, u17, u18, .pointer (some ⟨B.p, 0, none⟩), .slice (some ⟨hb, 0, none⟩) nG nG, u21, .slice (some ⟨ob, 0, none⟩) nT nT, .slice (some ⟨wb, 0, none⟩) nT nT, u24, u25, u26, u27, u28, u29, .slice A P.length c, .bool false, u32, u33, u34, u35, u36, u37, u38, u39, u40, u41, u42, u43, u44, u45, u46, u47, u48, u49, u50, u51, u52, u53, u54, u55, u56, u57, u58, u59, u60, u61, u62, u63, u64, u65, u66, u67, u68, u69, u70, u71, u72, u73, u74, u75, u76, u77, u78, u79, u80, u81, u82, u83, u84, u85, u86, u87, u88, u89, u90, u91, u92, u93, u94, u95, u96, u97, u98, u99, u100, u101, u102, u103, u104, u105, u106, u107, u108, u109, u110, u111, u112, u113, u114, u115, u116, u117, u118, u119, u120, u121, u122, u123, u124, u125, u126, u127, u128, u129, u130, u131, u132, u133, u134, u135, u136, u137, u138, u139, u140, u141, u142, u143, u144, u145, u146, u147, u148, u149, u150, u151, u152, u153, u154, u155, u156, u157, u158, u159, u160, u161, u162, u163, u164, u165, u166, u167, u168, u169, u170, u171, u172, u173, u174, u175, u176, u177, u178, u179, u180, u181, u182, u183, u184, u185, u186, u187, u188, u189, u190, u191, u192, u193, u194, u195, u196, u197, u198, u199, u200, u201, u202, u203, u204, u205, u206, u207, u208, u209, u210, u211, u212, u213, u214, u215, u216, u217, u218, u219, u220, u221, u222, u223, u224, u225, u226, u227, u228, u229, u230, u231, u232, u233, u234, u235, u236, u237, u238, u239, u240, u241, u242, u243, u244, u245, u246, u247, u248, u249, u250, u251, u252, u253, u254, u255, u256, u257, u258, u259, u260, u261, u262, u263, u264, u265, u266, u267, u268, u269, u270, u271, u272, u273, u274, u275, u276, u277, u278, u279, u280, u281, u282, u283, u284, u285, u286, u287, u288, u289, u290, u291, u292, u293, u294, u295, u296, u297, u298, u299, u300, u301, u302, u303, u304, u305, u306, u307, u308, u309, u310, u311, u312, u313, u314, u315, u316, u317, u318, u319, u320, u321, u322, u323, u324, u325, u326, u327, u328, u329, u330, u331, u332, u333, u334, u335, u336, u337, u338, u339, u340, u341, u342, u343, u344, u345, u346, u347, u348, u349, u350, u351, u352, u353, u354, u355, u356, u357, u358, u359, u360, u361, u362, u363, u364, u365, u366, u367, u368, u369, u370, u371, u372, u373], []⟩ wr := by
        intro hnil
        rw [hnil] at hlaw
        have e2 := HRES.out
        rw [← hlaw] at e2
        have hc0 := HC.out
        have hc := @hc0 wr A c
        rw [e2, hbw] at hc
        intros
        exact hc hB hown
      have HDONE : Hid _ := @hdone
      cases hq : rq x with
      | none =>
        rw [hq] at hcw
        have hnil : nxOf H rq x = [] := by unfold nxOf; rw [hq]
        replace hcw : wr.cell? ⟨wb, x, none⟩ = some (.int .i64 (-1)) := hcw
        clear hdone hlaw hown hB hch HC
        go_wp2_with fail
        exact HDONE.out hnil
      | some g =>
        rw [hq] at hcw
        replace hcw : wr.cell? ⟨wb, x, none⟩ = some (.int .i64 (g : Int)) := hcw
        have hgn := HH.out.rq x hx g hq
        have hcg := hch g hgn
        clear hch
        cases hh : H g with
        | none =>
          rw [hh] at hcg
          replace hcg : wr.cell? ⟨hb, g, none⟩ = some (.int .i64 (-1)) := hcg
          have hnil : nxOf H rq x = [] := by unfold nxOf; rw [hq]; simp only; rw [hh]; rfl
          clear hdone hlaw hown hB HC
          go_wp2_with fail
          exact HDONE.out hnil
        | some t =>
          rw [hh] at hcg
          replace hcg : wr.cell? ⟨hb, g, none⟩ = some (.int .i64 (t : Int)) := hcg
          by_cases htx : t = x
          · have hnil : nxOf H rq x = [] := by unfold nxOf; rw [hq]; simp only; rw [hh]; simp [edge, htx]
            subst htx
            clear hdone hlaw hown hB HC
            go_wp2_with fail
            exact HDONE.out hnil
          · have hnx : nxOf H rq x = [t] := by unfold nxOf; rw [hq]; simp only; rw [hh]; simp [edge, htx]
            rw [hnx] at hlaw
            have t2 : ((t : Int) == (x : Int)) = false := beq_eq_false_iff_ne.2 (by omega)
            have t3 : ¬ ((t : Int) = (x : Int)) := by omega
            by_cases hta : t = a
            · subst hta
              simp only [if_true] at hlaw
              have hfin : ∀ {u8 u9 u10 u11 u12 u13 u14 u15 u16 u17 u18 u21 u24 u25 u26 u27 u28 u29 u32 u33 u34 u35 u36 u37 u38 u39 u40 u41 u42 u43 u44 u45 u46 u47 u48 u49 u50 u51 u52 u53 u54 u55 u56 u57 u58 u59 u60 u61 u62 u63 u64 u65 u66 u67 u68 u69 u70 u71 u72 u73 u74 u75 u76 u77 u78 u79 u80 u81 u82 u83 u84 u85 u86 u87 u88 u89 u90 u91 u92 u93 u94 u95 u96 u97 u98 u99 u100 u101 u102 u103 u104 u105 u106 u107 u108 u109 u110 u111 u112 u113 u114 u115 u116 u117 u118 u119 u120 u121 u122 u123 u124 u125 u126 u127 u128 u129 u130 u131 u132 u133 u134 u135 u136 u137 u138 u139 u140 u141 u142 u143 u144 u145 u146 u147 u148 u149 u150 u151 u152 u153 u154 u155 u156 u157 u158 u159 u160 u161 u162 u163 u164 u165 u166 u167 u168 u169 u170 u171 u172 u173 u174 u175 u176 u177 u178 u179 u180 u181 u182 u183 u184 u185 u186 u187 u188 u189 u190 u191 u192 u193 u194 u195 u196 u197 u198 u199 u200 u201 u202 u203 u204 u205 u206 u207 u208 u209 u210 u211 u212 u213 u214 u215 u216 u217 u218 u219 u220 u221 u222 u223 u224 u225 u226 u227 u228 u229 u230 u231 u232 u233 u234 u235 u236 u237 u238 u239 u240 u241 u242 u243 u244 u245 u246 u247 u248 u249 u250 u251 u252 u253 u254 u255 u256 u257 u258 u259 u260 u261 u262 u263 u264 u265 u266 u267 u268 u269 u270 u271 u272 u273 u274 u275 u276 u277 u278 u279 u280 u281 u282 u283 u284 u285 u286 u287 u288 u289 u290 u291 u292 u293 u294 u295 u296 u297 u298 u299 u300 u301 u302 u303 u304 u305 u306 u307 u308 u309 u310 u311 u312 u313 u314 u315 u316 u317 u318 u319 u320 u321 u322 u323 u324 u325 u326 u327 u328 u329 u330 u331 u332 u333 u334 u335 u336 u337 u338 u339 u340 u341 u342 u343 u344 u345 u346 u347 u348 u349 u350 u351 u352 u353 u354 u355 u356 u357 u358 u359 u360 u361 u362 u363 u364 u365 u366 u367 u368 u369 u370 u371 u372 u373 : Value}, Code.wp Try.prog C (bodyPost Try.prog Try.f4 fun e w' => e = .returned (.bool true) ∧ Below w0.heap.size w0 w') ⟨#[.int .i64 (nT : Nat), .int .i64 (nG : Nat), .slice A2 m c2, .slice A3 m c3, .slice A4 m c4, .slice (some ⟨at_, 0, none⟩) n5 n5, .int .u8 v, .int .i64 (t : Nat), u8, u9, u10, u11, u12, u13, u14, u15, u16, u17, u18, .pointer (some ⟨B.p, 0, none⟩), .slice (some ⟨hb, 0, none⟩) nG nG, u21, .slice (some ⟨ob, 0, none⟩) nT nT, .slice (some ⟨wb, 0, none⟩) nT nT, u24, u25, u26, u27, u28, u29, .slice A P.length c, .bool true, u32, u33, u34, u35, u36, u37, u38, u39, u40, u41, u42, u43, u44, u45, u46, u47, u48, u49, u50, u51, u52, u53, u54, u55, u56, u57, u58, u59, u60, u61, u62, u63, u64, u65, u66, u67, u68, u69, u70, u71, u72, u73, u74, u75, u76, u77, u78, u79, u80, u81, u82, u83, u84, u85, u86, u87, u88, u89, u90, u91, u92, u93, u94, u95, u96, u97, u98, u99, u100, u101, u102, u103, u104, u105, u106, u107, u108, u109, u110, u111, u112, u113, u114, u115, u116, u117, u118, u119, u120, u121, u122, u123, u124, u125, u126, u127, u128, u129, u130, u131, u132, u133, u134, u135, u136, u137, u138, u139, u140, u141, u142, u143, u144, u145, u146, u147, u148, u149, u150, u151, u152, u153, u154, u155, u156, u157, u158, u159, u160, u161, u162, u163, u164, u165, u166, u167, u168, u169, u170, u171, u172, u173, u174, u175, u176, u177, u178, u179, u180, u181, u182, u183, u184, u185, u186, u187, u188, u189, u190, u191, u192, u193, u194, u195, u196, u197, u198, u199, u200, u201, u202, u203, u204, u205, u206, u207, u208, u209, u210, u211, u212, u213, u214, u215, u216, u217, u218, u219, u220, u221, u222, u223, u224, u225, u226, u227, u228, u229, u230, u231, u232, u233, u234, u235, u236, u237, u238, u239, u240, u241, u242, u243, u244, u245, u246, u247, u248, u249, u250, u251, u252, u253, u254, u255, u256, u257, u258, u259, u260, u261, u262, u263, u264, u265, u266, u267, u268, u269, u270, u271, u272, u273, u274, u275, u276, u277, u278, u279, u280, u281, u282, u283, u284, u285, u286, u287, u288, u289, u290, u291, u292, u293, u294, u295, u296, u297, u298, u299, u300, u301, u302, u303, u304, u305, u306, u307, u308, u309, u310, u311, u312, u313, u314, u315, u316, u317, u318, u319, u320, u321, u322, u323, u324, u325, u326, u327, u328, u329, u330, u331, u332, u333, u334, u335, u336, u337, u338, u339, u340, u341, u342, u343, u344, u345, u346, u347, u348, u349, u350, u351, u352, u353, u354, u355, u356, u357, u358, u359, u360, u361, u362, u363, u364, u365, u366, u367, u368, u369, u370, u371, u372, u373], []⟩ wr := by
                have e2 := HRES.out
                rw [← hlaw] at e2
                have hc0 := HC.out
                have hc := @hc0 wr A c
                rw [e2, hbw] at hc
                intros
                exact hc hB hown
              have HFIN : Hid _ := @hfin
              clear hdone hlaw hown hB HC HDONE hfin
              go_wp2_with fail
              exact HFIN.out
            · simp only [if_neg hta] at hlaw
              have t4 : ((t : Int) == (a : Int)) = false := beq_eq_false_iff_ne.2 (by omega)
              have t5 : ¬ ((t : Int) = (a : Int)) := by omega
              have htn := HH.out.ho g hgn t hh
              obtain ⟨g6, cap6, w6, hrun, hown6, hB6⟩ := row_app hown hbs (by omega) t
              have HRUN : Hid ((Builtin.append_ #[25, 25] 25 #[.slice A P.length c, .slice (some ⟨wr.heap.size, 0, none⟩) 1 1]).run Try.prog (wr.alloc (.cells #[.int .i64 (t : Int)] 3)) = .ok (.slice (some ⟨g6, 0, none⟩) (P.length + 1) cap6) w6) := hrun
              have HO6 : Hid (w6.ownsRow bw 3 1 (.slice (some ⟨g6, 0, none⟩) (P.length + 1) cap6) (P.length + 1) (ic P ++ [.int .i64 (t : Int)])) := hown6
              have HB6 : Hid (Below bw w w6) := hB.trans hB6
              have HLAW2 : Hid (lawW (nxOf H rq) a f' (P ++ [t]) = res) := hlaw
              clear hdone hlaw hown hB HC HDONE hrun hown6 hB6
              go_wp2_with (at_builtin; refine wpList_append_by rfl (.tmp 294) (.tmp 296) 25 25 rfl rfl rfl HRUN.out ?_)
              go_roundw
              case rel =>
                refine ⟨P ++ [t], f', t, some ⟨g6, 0, none⟩, cap6, by omega, by simp, by simp; omega, last_snoc _ _ _, htn, HLAW2.out, by simp, rfl, rfl, ?_, ?_, HB6.out⟩
                · first | go_num | (simp; omega) | (congr 1; omega)
                · rw [ic_app, List.length_append]; exact HO6.out
              case measure => simp [intOf]; omega
end Go.Proofs.Qxb6616109a
