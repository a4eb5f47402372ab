import Derived.Test.Qxb6616109aDmK
import Derived.Test.Qxb6616109aCut
namespace Go.Proofs.Qxb6616109a
open Go.RowKit Go.Deep Go.Joins
set_option linter.unusedSimpArgs false
set_option linter.unusedVariables false

theorem q6_step {w2 wr : World} {n b j : Nat} (hq : Q6 w2 wr n b j) : Q6 w2 (wr.setCell ⟨b, j, none⟩ (.int .i64 (-1))) n b (j + 1) := by
  refine ⟨hq.os, hq.tape, hq.output, by rw [nblk_setCell]; exact hq.size, fun c hc => by rw [Below.heap_setCell _ _ _ _ (by simpa using hc)]; exact hq.block c hc, ?_⟩
  refine (hq.row.set j _).congr fun i hi => ?_
  by_cases e : i = j
  · subst e; simp
  · simp only [e, if_false]
    by_cases e2 : i < j
    · rw [if_pos e2, if_pos (by omega)]
    · rw [if_neg e2, if_neg (by omega)]

set_option maxHeartbeats 4000000 in
set_option maxRecDepth 100000 in
theorem dPhaseD (C : Code) (w0 w : World) (nT nG a m : Nat) (v : Int) (A2 A3 A4 : Option Addr) (c2 c3 c4 n5 at_ : Nat) (hnT : nT ≤ 4096) (hnG : nG ≤ 65536)
    {u8 u9 u10 u11 u12 u13 u14 u15 u16 u17 u18 u19 u20 u21 u22 u23 u24 u25 u26 u27 u28 u29 u30 u31 u32 u33 u34 u35 u36 u37 u38 u39 u40 u41 u42 u43 u44 u45 u46 u47 u48 u49 u50 u51 u52 u53 u54 u55 u56 u57 u58 u59 u60 u61 u62 u63 u64 u65 u66 u67 u68 u69 u70 u71 u72 u73 u74 u75 u76 u77 u78 u79 u80 u81 u82 u83 u84 u85 u86 u87 u88 u89 u90 u91 u92 u93 u94 u95 u96 u97 u98 u99 u100 u101 u102 u103 u104 u105 u106 u107 u108 u109 u110 u111 u112 u113 u114 u115 u116 u117 u118 u119 u120 u121 u122 u123 u124 u125 u126 u127 u128 u129 u130 u131 u132 u133 u134 u135 u136 u137 u138 u139 u140 u141 u142 u143 u144 u145 u146 u147 u148 u149 u150 u151 u152 u153 u154 u155 u156 u157 u158 u159 u160 u161 u162 u163 u164 u165 u166 u167 u168 u169 u170 u171 u172 u173 u174 u175 u176 u177 u178 u179 u180 u181 u182 u183 u184 u185 u186 u187 u188 u189 u190 u191 u192 u193 u194 u195 u196 u197 u198 u199 u200 u201 u202 u203 u204 u205 u206 u207 u208 u209 u210 u211 u212 u213 u214 u215 u216 u217 u218 u219 u220 u221 u222 u223 u224 u225 u226 u227 u228 u229 u230 u231 u232 u233 u234 u235 u236 u237 u238 u239 u240 u241 u242 u243 u244 u245 u246 u247 u248 u249 u250 u251 u252 u253 u254 u255 u256 u257 u258 u259 u260 u261 u262 u263 u264 u265 u266 u267 u268 u269 u270 u271 u272 u273 u274 u275 u276 u277 u278 u279 u280 u281 u282 u283 u284 u285 u286 u287 u288 u289 u290 u291 u292 u293 u294 u295 u296 u297 u298 u299 u300 u301 u302 u303 u304 u305 u306 u307 u308 u309 u310 u311 u312 u313 u314 u315 u316 u317 u318 u319 u320 u321 u322 u323 u324 u325 u326 u327 u328 u329 u330 u331 u332 u333 u334 u335 u336 u337 u338 u339 u340 u341 u342 u343 u344 u345 u346 u347 u348 u349 u350 u351 u352 u353 u354 u355 u356 u357 u358 u359 u360 u361 u362 u363 u364 u365 u366 u367 u368 u369 u370 u371 u372 u373 : Value}
    (hC : ∀ (B : Bk) (N hb ob wb : Nat) (w1 : World) (V : Nat → Nat → Value) (X : Nat → Nat → List Value) (md : Nat → Int) {u8 u9 u10 u11 u12 u13 u14 u15 u16 u17 u18 u21 u24 u25 u26 u27 u28 u29 u30 u31 u32 u33 u34 u35 u36 u37 u38 u39 u40 u41 u42 u43 u44 u45 u46 u47 u48 u49 u50 u51 u52 u53 u54 u55 u56 u57 u58 u59 u60 u61 u62 u63 u64 u65 u66 u67 u68 u69 u70 u71 u72 u73 u74 u75 u76 u77 u78 u79 u80 u81 u82 u83 u84 u85 u86 u87 u88 u89 u90 u91 u92 u93 u94 u95 u96 u97 u98 u99 u100 u101 u102 u103 u104 u105 u106 u107 u108 u109 u110 u111 u112 u113 u114 u115 u116 u117 u118 u119 u120 u121 u122 u123 u124 u125 u126 u127 u128 u129 u130 u131 u132 u133 u134 u135 u136 u137 u138 u139 u140 u141 u142 u143 u144 u145 u146 u147 u148 u149 u150 u151 u152 u153 u154 u155 u156 u157 u158 u159 u160 u161 u162 u163 u164 u165 u166 u167 u168 u169 u170 u171 u172 u173 u174 u175 u176 u177 u178 u179 u180 u181 u182 u183 u184 u185 u186 u187 u188 u189 u190 u191 u192 u193 u194 u195 u196 u197 u198 u199 u200 u201 u202 u203 u204 u205 u206 u207 u208 u209 u210 u211 u212 u213 u214 u215 u216 u217 u218 u219 u220 u221 u222 u223 u224 u225 u226 u227 u228 u229 u230 u231 u232 u233 u234 u235 u236 u237 u238 u239 u240 u241 u242 u243 u244 u245 u246 u247 u248 u249 u250 u251 u252 u253 u254 u255 u256 u257 u258 u259 u260 u261 u262 u263 u264 u265 u266 u267 u268 u269 u270 u271 u272 u273 u274 u275 u276 u277 u278 u279 u280 u281 u282 u283 u284 u285 u286 u287 u288 u289 u290 u291 u292 u293 u294 u295 u296 u297 u298 u299 u300 u301 u302 u303 u304 u305 u306 u307 u308 u309 u310 u311 u312 u313 u314 u315 u316 u317 u318 u319 u320 u321 u322 u323 u324 u325 u326 u327 u328 u329 u330 u331 u332 u333 u334 u335 u336 u337 u338 u339 u340 u341 u342 u343 u344 u345 u346 u347 u348 u349 u350 u351 u352 u353 u354 u355 u356 u357 u358 u359 u360 u361 u362 u363 u364 u365 u366 u367 u368 u369 u370 u371 u372 u373 : Value}, Lw w w1 B N nT nG hb ob wb V X md (fun _ => none) (fun _ => none) (fun _ => []) →
      Code.wp Try.prog C (bodyPost Try.prog Try.f4 fun e w' => e = .returned (.bool true) ∧ Below w0.heap.size w0 w') ⟨#[.int .i64 (nT : Nat), .int .i64 (nG : Nat), .slice A2 m c2, .slice A3 m c3, .slice A4 m c4, .slice (some ⟨at_, 0, none⟩) n5 n5, .int .u8 v, .int .i64 (a : Nat), u8, u9, u10, u11, u12, u13, u14, u15, u16, u17, u18, .pointer (some ⟨B.p, 0, none⟩), .slice (some ⟨hb, 0, none⟩) nG nG, u21, .slice (some ⟨ob, 0, none⟩) nT nT, .slice (some ⟨wb, 0, none⟩) nT nT, u24, u25, u26, u27, u28, u29, u30, u31, u32, u33, u34, u35, u36, u37, u38, u39, u40, u41, u42, u43, u44, u45, u46, u47, u48, u49, u50, u51, u52, u53, u54, u55, u56, u57, u58, u59, u60, u61, u62, u63, u64, u65, u66, u67, u68, u69, u70, u71, u72, u73, u74, u75, u76, u77, u78, u79, u80, u81, u82, u83, u84, u85, u86, u87, u88, u89, u90, u91, u92, u93, u94, u95, u96, u97, u98, u99, u100, u101, u102, u103, u104, u105, u106, u107, u108, u109, u110, u111, u112, u113, u114, u115, u116, u117, u118, u119, u120, u121, u122, u123, u124, u125, u126, u127, u128, u129, u130, u131, u132, u133, u134, u135, u136, u137, u138, u139, u140, u141, u142, u143, u144, u145, u146, u147, u148, u149, u150, u151, u152, u153, u154, u155, u156, u157, u158, u159, u160, u161, u162, u163, u164, u165, u166, u167, u168, u169, u170, u171, u172, u173, u174, u175, u176, u177, u178, u179, u180, u181, u182, u183, u184, u185, u186, u187, u188, u189, u190, u191, u192, u193, u194, u195, u196, u197, u198, u199, u200, u201, u202, u203, u204, u205, u206, u207, u208, u209, u210, u211, u212, u213, u214, u215, u216, u217, u218, u219, u220, u221, u222, u223, u224, u225, u226, u227, u228, u229, u230, u231, u232, u233, u234, u235, u236, u237, u238, u239, u240, u241, u242, u243, u244, u245, u246, u247, u248, u249, u250, u251, u252, u253, u254, u255, u256, u257, u258, u259, u260, u261, u262, u263, u264, u265, u266, u267, u268, u269, u270, u271, u272, u273, u274, u275, u276, u277, u278, u279, u280, u281, u282, u283, u284, u285, u286, u287, u288, u289, u290, u291, u292, u293, u294, u295, u296, u297, u298, u299, u300, u301, u302, u303, u304, u305, u306, u307, u308, u309, u310, u311, u312, u313, u314, u315, u316, u317, u318, u319, u320, u321, u322, u323, u324, u325, u326, u327, u328, u329, u330, u331, u332, u333, u334, u335, u336, u337, u338, u339, u340, u341, u342, u343, u344, u345, u346, u347, u348, u349, u350, u351, u352, u353, u354, u355, u356, u357, u358, u359, u360, u361, u362, u363, u364, u365, u366, u367, u368, u369, u370, u371, u372, u373], []⟩ w1) :
    Code.wp Try.prog (cutAt 6 (dropAt 7 (Try.f4.body.getD .skip)) C) (bodyPost Try.prog Try.f4 fun e w' => e = .returned (.bool true) ∧ Below w0.heap.size w0 w') ⟨#[.int .i64 (nT : Nat), .int .i64 (nG : Nat), .slice A2 m c2, .slice A3 m c3, .slice A4 m c4, .slice (some ⟨at_, 0, none⟩) n5 n5, .int .u8 v, .int .i64 (a : Nat), u8, u9, u10, u11, u12, u13, u14, u15, u16, u17, u18, u19, u20, u21, u22, u23, u24, u25, u26, u27, u28, u29, u30, u31, u32, u33, u34, u35, u36, u37, u38, u39, u40, u41, u42, u43, u44, u45, u46, u47, u48, u49, u50, u51, u52, u53, u54, u55, u56, u57, u58, u59, u60, u61, u62, u63, u64, u65, u66, u67, u68, u69, u70, u71, u72, u73, u74, u75, u76, u77, u78, u79, u80, u81, u82, u83, u84, u85, u86, u87, u88, u89, u90, u91, u92, u93, u94, u95, u96, u97, u98, u99, u100, u101, u102, u103, u104, u105, u106, u107, u108, u109, u110, u111, u112, u113, u114, u115, u116, u117, u118, u119, u120, u121, u122, u123, u124, u125, u126, u127, u128, u129, u130, u131, u132, u133, u134, u135, u136, u137, u138, u139, u140, u141, u142, u143, u144, u145, u146, u147, u148, u149, u150, u151, u152, u153, u154, u155, u156, u157, u158, u159, u160, u161, u162, u163, u164, u165, u166, u167, u168, u169, u170, u171, u172, u173, u174, u175, u176, u177, u178, u179, u180, u181, u182, u183, u184, u185, u186, u187, u188, u189, u190, u191, u192, u193, u194, u195, u196, u197, u198, u199, u200, u201, u202, u203, u204, u205, u206, u207, u208, u209, u210, u211, u212, u213, u214, u215, u216, u217, u218, u219, u220, u221, u222, u223, u224, u225, u226, u227, u228, u229, u230, u231, u232, u233, u234, u235, u236, u237, u238, u239, u240, u241, u242, u243, u244, u245, u246, u247, u248, u249, u250, u251, u252, u253, u254, u255, u256, u257, u258, u259, u260, u261, u262, u263, u264, u265, u266, u267, u268, u269, u270, u271, u272, u273, u274, u275, u276, u277, u278, u279, u280, u281, u282, u283, u284, u285, u286, u287, u288, u289, u290, u291, u292, u293, u294, u295, u296, u297, u298, u299, u300, u301, u302, u303, u304, u305, u306, u307, u308, u309, u310, u311, u312, u313, u314, u315, u316, u317, u318, u319, u320, u321, u322, u323, u324, u325, u326, u327, u328, u329, u330, u331, u332, u333, u334, u335, u336, u337, u338, u339, u340, u341, u342, u343, u344, u345, u346, u347, u348, u349, u350, u351, u352, u353, u354, u355, u356, u357, u358, u359, u360, u361, u362, u363, u364, u365, u366, u367, u368, u369, u370, u371, u372, u373], []⟩ w := by
  conv => arg 2; simp only [Try.f4, Option.getD_some, cutAt, dropAt]
  have HC : Hid _ := @hC
  have k6 := new6 nT nG w hnT hnG
  have hmk1 := run_make_row' (P := Try.prog) 25 3 (.int .i64 0) 8 Try.underlying25 info3 rfl .i64 .i64 nG (by omega) (by omega)
  have hmk2 := run_make_row' (P := Try.prog) 32 25 (.slice none 0 0) 24 Try.underlying32 info25 rfl .i64 .i64 nT (by omega) (by omega)
  have hmk3 := run_make_row' (P := Try.prog) 25 3 (.int .i64 0) 8 Try.underlying25 info3 rfl .i64 .i64 nT (by omega) (by omega)
  clear hC
  go_wp2_with fail
  refine k6.mono ?_
  rintro e w1 ⟨B, rfl, hB1, hok, hge, hlk⟩
  have HB1 : Hid (Below w.heap.size w w1) := hB1
  have HOK : Hid (B.Ok w1.heap.size) := hok
  have HGE : Hid (w.heap.size ≤ B.ho ∧ w.heap.size ≤ B.hd ∧ w.heap.size ≤ B.rf ∧ w.heap.size ≤ B.p) := hge
  have HLK : Hid (∀ w2, Below w1.heap.size w1 w2 → Lk w2 B w2.heap.size nT nG (lim0 nT nG) V0 X0 (fun _ => 0)) := hlk
  clear k6 hB1 hok hge hlk
  dsimp only
  go_wp2_with fail
  obtain ⟨w2, hw2⟩ : ∃ w2, w1.alloc (.cells (madeCells #[.int .i64 0] nG) 3) = w2 := ⟨_, rfl⟩
  obtain ⟨hb, hhb⟩ : ∃ hb, w1.heap.size = hb := ⟨_, rfl⟩
  have q0 : Q6 w2 w2 nG hb 0 := by
    rw [← hw2, ← hhb]
    exact ⟨rfl, rfl, rfl, rfl, fun _ _ => rfl, ⟨_, blk_alloc_new _ _, size_madeCells _ _, fun i hi => by simpa using made_at (.int .i64 0) nG i (by simpa [size_madeCells] using hi)⟩⟩
  have hB2 : Below w1.heap.size w1 w2 := by rw [← hw2]; exact (Below.refl _ _).alloc (Nat.le_refl _) _
  have hs2 : w2.heap.size = hb + 1 := by rw [← hw2, ← hhb]; simp
  have HB2 : Hid (Below w1.heap.size w1 w2) := hB2
  rw [hw2, hhb]
  clear hw2 hB2
  go_loopw [21] (fun i wr => ∃ j, j ≤ nG ∧ i = .int .i64 (j : Nat) ∧ Q6 w2 wr nG hb j) (fun i _ => nG - (intOf i).toNat)
  case atStart => exact ⟨0, by omega, rfl, q0⟩
  case round =>
    obtain ⟨j, hj, rfl, hq⟩ := hrel
    clear q0
    by_cases hjl : j < nG
    · have c5 := hq.row.cell hjl
      have f5 := hq.row.frozen j
      have hq' : Q6 w2 (wr.setCell ⟨hb, j, none⟩ (.int .i64 (-1))) nG hb (j + 1) := q6_step hq
      have HQ : Hid (Q6 w2 (wr.setCell ⟨hb, j, none⟩ (.int .i64 (-1))) nG hb (j + 1)) := hq'
      clear hq hq' HC HLK
      go_wp2
      go_roundw
      case rel => exact ⟨j + 1, by omega, by go_num, HQ.out⟩
      case measure => simp [intOf]; omega
    · obtain rfl : j = nG := by omega
      have HQ3 : Hid (Q6 w2 wr j hb j) := hq
      have hs3 : wr.heap.size = hb + 1 := by rw [hq.size, hs2]
      clear hq
      go_wp2_with fail
      obtain ⟨w5, hw5⟩ : ∃ w5, (wr.alloc (.cells (madeCells #[.slice none 0 0] nT) 25)).alloc (.cells (madeCells #[.int .i64 0] nT) 3) = w5 := ⟨_, rfl⟩
      have q5 : Q6 w5 w5 nT (hb + 2) 0 := by
        rw [← hw5]
        refine ⟨rfl, rfl, rfl, rfl, fun _ _ => rfl, ⟨_, ?_, size_madeCells _ _, fun i hi => by simpa using made_at (.int .i64 0) nT i (by simpa [size_madeCells] using hi)⟩⟩
        have := blk_alloc_new (wr.alloc (.cells (madeCells #[.slice none 0 0] nT) 25)) (.cells (madeCells #[.int .i64 0] nT) 3)
        rw [World.size_alloc, hs3] at this
        exact this
      have ro5 : w5.rowIs (hb + 1) 25 nT (V0 3) := by
        rw [← hw5]
        have h1 : (wr.alloc (.cells (madeCells #[.slice none 0 0] nT) 25)).rowIs (hb + 1) 25 nT (V0 3) := by
          rw [← hs3]
          exact ⟨_, blk_alloc_new _ _, size_madeCells _ _, fun i hi => made_at (.slice none 0 0) nT i (by simpa [size_madeCells] using hi)⟩
        exact h1.of_block (Below.heap_alloc _ _ _ (by rw [World.size_alloc]; omega))
      have hB5 : Below wr.heap.size wr w5 := by rw [← hw5]; exact ((Below.refl _ wr).alloc (Nat.le_refl _) _).alloc (by simp) _
      have hs5 : w5.heap.size = hb + 3 := by rw [← hw5, World.size_alloc, World.size_alloc]; omega
      have HB5 : Hid (Below wr.heap.size wr w5) := hB5
      have HRO5 : Hid (w5.rowIs (hb + 1) 25 nT (V0 3)) := ro5
      rw [hw5]
      clear hw5 hB5 ro5
      obtain ⟨w3, hw3⟩ : ∃ w3, wr = w3 := ⟨_, rfl⟩
      rw [hw3] at HQ3 hs3 HB5
      clear hw3
      go_loopw [24] (fun i wr => ∃ j, j ≤ nT ∧ i = .int .i64 (j : Nat) ∧ Q6 w5 wr nT (hb + 2) j) (fun i _ => nT - (intOf i).toNat)
      case atStart => exact ⟨0, by omega, rfl, q5⟩
      case round =>
        obtain ⟨j2, hj2, rfl, hq2⟩ := hrel
        clear q5
        by_cases hjl2 : j2 < nT
        · have c5 := hq2.row.cell hjl2
          have f5 := hq2.row.frozen j2
          have hq' : Q6 w5 (wr.setCell ⟨hb + 2, j2, none⟩ (.int .i64 (-1))) nT (hb + 2) (j2 + 1) := q6_step hq2
          have HQ : Hid (Q6 w5 (wr.setCell ⟨hb + 2, j2, none⟩ (.int .i64 (-1))) nT (hb + 2) (j2 + 1)) := hq'
          clear hq2 hq' HC HLK
          go_wp2
          go_roundw
          case rel => exact ⟨j2 + 1, by omega, by go_num, HQ.out⟩
          case measure => simp [intOf]; omega
        · obtain rfl : j2 = nT := by omega
          have HQ6 : Hid (Q6 w5 wr j2 (hb + 2) j2) := hq2
          clear hq2
          go_wp2_with fail
          have q3 := HQ3.out
          have q6 := HQ6.out
          have b2 := HB2.out
          have b5 := HB5.out
          have s6 : wr.heap.size = hb + 3 := by rw [q6.size, hs5]
          have ok := HOK.out
          rw [hhb] at ok b2
          have hBw1 : Below w1.heap.size w1 wr := by
            rw [hhb]
            refine ⟨q6.os.trans (b5.os.trans (q3.os.trans b2.os)), q6.tape.trans (b5.tape.trans (q3.tape.trans b2.tape)), q6.output.trans (b5.output.trans (q3.output.trans b2.output)), by omega, fun b hb' => ?_⟩
            rw [q6.block b (by omega), b5.block b (by omega), q3.block b (by omega)]
            exact b2.block b hb'
          have lk := HLK.out wr hBw1
          have hge := HGE.out
          have hws : w.heap.size ≤ hb := by rw [← hhb]; exact HB1.out.size
          have o1 := ok.p.1
          have o2 := ok.ho.1
          have o3 := ok.hd.1
          have o4 := ok.rf
          refine HC.out B wr.heap.size hb (hb + 1) (hb + 2) wr V0 X0 (fun _ => 0) ⟨⟨lk, ok, by omega, ?_, ?_, ?_, by omega, ?_⟩, fun _ _ => rfl, fun _ _ => rfl, fun _ _ => rfl, fun _ _ => rfl, (fun t _ g h => by cases h), (fun g _ t h => by cases h), fun t _ g => by simp, fun _ _ => List.nodup_nil⟩
          · have h1 := (q3.row.congr (g := fun g => .int .i64 (nv none)) (fun i hi => by simp [nv, hi]))
            exact h1.of_block (by rw [q6.block hb (by omega), b5.block hb (by omega)])
          · exact q6.row.congr (fun i hi => by simp [nv, hi])
          · exact HRO5.out.of_block (q6.block _ (by omega))
          · exact HB1.out.trans (hBw1.mono (by omega))
end Go.Proofs.Qxb6616109a
