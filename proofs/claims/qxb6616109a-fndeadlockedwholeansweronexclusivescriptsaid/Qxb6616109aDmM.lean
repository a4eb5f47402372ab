import Derived.Test.Qxb6616109aDmL
namespace Go.Proofs.Qxb6616109a
open Go.RowKit Go.Deep Go.Joins
set_option linter.unusedSimpArgs false
set_option linter.unusedVariables false

set_option maxHeartbeats 8000000 in
set_option maxRecDepth 100000 in
theorem dPhaseE (C : Code) (w0 wD w : World) (B : Bk) (N hb ob wb nT nG a m : Nat) (v : Int) (A2 A3 A4 : Option Addr) (c2 c3 c4 n5 at_ : Nat) (tx gs : Nat → Int) (rl : Nat → Bool) (hm : m ≤ 4096) (hnT : nT ≤ 4096) (hnG : nG ≤ 65536)
    (h2 : Cells wD A2 m (fun i => .int .i64 (tx i))) (h3 : Cells wD A3 m (fun i => .int .i64 (gs i))) (h4 : Cells wD A4 m (fun i => .bool (rl i))) (hfac : ∀ i, i < m → 0 ≤ tx i ∧ tx i < nT ∧ (rl i = false → 0 ≤ gs i ∧ gs i < nG))
    (V : Nat → Nat → Value) (X : Nat → Nat → List Value) (md : Nat → Int) (H rq : Nat → Option Nat) (L : Nat → List Nat) (h : Lw wD w B N nT nG hb ob wb V X md H rq L)
    {u8 u9 u10 u11 u12 u13 u14 u15 u16 u17 u18 u21 u24 u25 u26 u27 u28 u29 u30 u31 u32 u33 u34 u35 u36 u37 u38 u39 u40 u41 u42 u43 u44 u45 u46 u47 u48 u49 u50 u51 u52 u53 u54 u55 u56 u57 u58 u59 u60 u61 u62 u63 u64 u65 u66 u67 u68 u69 u70 u71 u72 u73 u74 u75 u76 u77 u78 u79 u80 u81 u82 u83 u84 u85 u86 u87 u88 u89 u90 u91 u92 u93 u94 u95 u96 u97 u98 u99 u100 u101 u102 u103 u104 u105 u106 u107 u108 u109 u110 u111 u112 u113 u114 u115 u116 u117 u118 u119 u120 u121 u122 u123 u124 u125 u126 u127 u128 u129 u130 u131 u132 u133 u134 u135 u136 u137 u138 u139 u140 u141 u142 u143 u144 u145 u146 u147 u148 u149 u150 u151 u152 u153 u154 u155 u156 u157 u158 u159 u160 u161 u162 u163 u164 u165 u166 u167 u168 u169 u170 u171 u172 u173 u174 u175 u176 u177 u178 u179 u180 u181 u182 u183 u184 u185 u186 u187 u188 u189 u190 u191 u192 u193 u194 u195 u196 u197 u198 u199 u200 u201 u202 u203 u204 u205 u206 u207 u208 u209 u210 u211 u212 u213 u214 u215 u216 u217 u218 u219 u220 u221 u222 u223 u224 u225 u226 u227 u228 u229 u230 u231 u232 u233 u234 u235 u236 u237 u238 u239 u240 u241 u242 u243 u244 u245 u246 u247 u248 u249 u250 u251 u252 u253 u254 u255 u256 u257 u258 u259 u260 u261 u262 u263 u264 u265 u266 u267 u268 u269 u270 u271 u272 u273 u274 u275 u276 u277 u278 u279 u280 u281 u282 u283 u284 u285 u286 u287 u288 u289 u290 u291 u292 u293 u294 u295 u296 u297 u298 u299 u300 u301 u302 u303 u304 u305 u306 u307 u308 u309 u310 u311 u312 u313 u314 u315 u316 u317 u318 u319 u320 u321 u322 u323 u324 u325 u326 u327 u328 u329 u330 u331 u332 u333 u334 u335 u336 u337 u338 u339 u340 u341 u342 u343 u344 u345 u346 u347 u348 u349 u350 u351 u352 u353 u354 u355 u356 u357 u358 u359 u360 u361 u362 u363 u364 u365 u366 u367 u368 u369 u370 u371 u372 u373 : Value}
    (hC : ∀ (w1 : World) (V : Nat → Nat → Value) (X : Nat → Nat → List Value) (md : Nat → Int) (H rq : Nat → Option Nat) (L : Nat → List Nat) {u8 u9 u10 u11 u12 u13 u14 u15 u16 u17 u18 u21 u24 u25 u26 u27 u28 u29 u30 u31 u32 u33 u34 u35 u36 u37 u38 u39 u40 u41 u42 u43 u44 u45 u46 u47 u48 u49 u50 u51 u52 u53 u54 u55 u56 u57 u58 u59 u60 u61 u62 u63 u64 u65 u66 u67 u68 u69 u70 u71 u72 u73 u74 u75 u76 u77 u78 u79 u80 u81 u82 u83 u84 u85 u86 u87 u88 u89 u90 u91 u92 u93 u94 u95 u96 u97 u98 u99 u100 u101 u102 u103 u104 u105 u106 u107 u108 u109 u110 u111 u112 u113 u114 u115 u116 u117 u118 u119 u120 u121 u122 u123 u124 u125 u126 u127 u128 u129 u130 u131 u132 u133 u134 u135 u136 u137 u138 u139 u140 u141 u142 u143 u144 u145 u146 u147 u148 u149 u150 u151 u152 u153 u154 u155 u156 u157 u158 u159 u160 u161 u162 u163 u164 u165 u166 u167 u168 u169 u170 u171 u172 u173 u174 u175 u176 u177 u178 u179 u180 u181 u182 u183 u184 u185 u186 u187 u188 u189 u190 u191 u192 u193 u194 u195 u196 u197 u198 u199 u200 u201 u202 u203 u204 u205 u206 u207 u208 u209 u210 u211 u212 u213 u214 u215 u216 u217 u218 u219 u220 u221 u222 u223 u224 u225 u226 u227 u228 u229 u230 u231 u232 u233 u234 u235 u236 u237 u238 u239 u240 u241 u242 u243 u244 u245 u246 u247 u248 u249 u250 u251 u252 u253 u254 u255 u256 u257 u258 u259 u260 u261 u262 u263 u264 u265 u266 u267 u268 u269 u270 u271 u272 u273 u274 u275 u276 u277 u278 u279 u280 u281 u282 u283 u284 u285 u286 u287 u288 u289 u290 u291 u292 u293 u294 u295 u296 u297 u298 u299 u300 u301 u302 u303 u304 u305 u306 u307 u308 u309 u310 u311 u312 u313 u314 u315 u316 u317 u318 u319 u320 u321 u322 u323 u324 u325 u326 u327 u328 u329 u330 u331 u332 u333 u334 u335 u336 u337 u338 u339 u340 u341 u342 u343 u344 u345 u346 u347 u348 u349 u350 u351 u352 u353 u354 u355 u356 u357 u358 u359 u360 u361 u362 u363 u364 u365 u366 u367 u368 u369 u370 u371 u372 u373 : Value}, Lw wD w1 B N nT nG hb ob wb V X md H rq L →
      Code.wp Try.prog C (bodyPost Try.prog Try.f4 fun e w' => e = .returned (.bool true) ∧ Below w0.heap.size w0 w') ⟨#[.int .i64 (nT : Nat), .int .i64 (nG : Nat), .slice A2 m c2, .slice A3 m c3, .slice A4 m c4, .slice (some ⟨at_, 0, none⟩) n5 n5, .int .u8 v, .int .i64 (a : Nat), u8, u9, u10, u11, u12, u13, u14, u15, u16, u17, u18, .pointer (some ⟨B.p, 0, none⟩), .slice (some ⟨hb, 0, none⟩) nG nG, u21, .slice (some ⟨ob, 0, none⟩) nT nT, .slice (some ⟨wb, 0, none⟩) nT nT, u24, u25, u26, u27, u28, u29, u30, u31, u32, u33, u34, u35, u36, u37, u38, u39, u40, u41, u42, u43, u44, u45, u46, u47, u48, u49, u50, u51, u52, u53, u54, u55, u56, u57, u58, u59, u60, u61, u62, u63, u64, u65, u66, u67, u68, u69, u70, u71, u72, u73, u74, u75, u76, u77, u78, u79, u80, u81, u82, u83, u84, u85, u86, u87, u88, u89, u90, u91, u92, u93, u94, u95, u96, u97, u98, u99, u100, u101, u102, u103, u104, u105, u106, u107, u108, u109, u110, u111, u112, u113, u114, u115, u116, u117, u118, u119, u120, u121, u122, u123, u124, u125, u126, u127, u128, u129, u130, u131, u132, u133, u134, u135, u136, u137, u138, u139, u140, u141, u142, u143, u144, u145, u146, u147, u148, u149, u150, u151, u152, u153, u154, u155, u156, u157, u158, u159, u160, u161, u162, u163, u164, u165, u166, u167, u168, u169, u170, u171, u172, u173, u174, u175, u176, u177, u178, u179, u180, u181, u182, u183, u184, u185, u186, u187, u188, u189, u190, u191, u192, u193, u194, u195, u196, u197, u198, u199, u200, u201, u202, u203, u204, u205, u206, u207, u208, u209, u210, u211, u212, u213, u214, u215, u216, u217, u218, u219, u220, u221, u222, u223, u224, u225, u226, u227, u228, u229, u230, u231, u232, u233, u234, u235, u236, u237, u238, u239, u240, u241, u242, u243, u244, u245, u246, u247, u248, u249, u250, u251, u252, u253, u254, u255, u256, u257, u258, u259, u260, u261, u262, u263, u264, u265, u266, u267, u268, u269, u270, u271, u272, u273, u274, u275, u276, u277, u278, u279, u280, u281, u282, u283, u284, u285, u286, u287, u288, u289, u290, u291, u292, u293, u294, u295, u296, u297, u298, u299, u300, u301, u302, u303, u304, u305, u306, u307, u308, u309, u310, u311, u312, u313, u314, u315, u316, u317, u318, u319, u320, u321, u322, u323, u324, u325, u326, u327, u328, u329, u330, u331, u332, u333, u334, u335, u336, u337, u338, u339, u340, u341, u342, u343, u344, u345, u346, u347, u348, u349, u350, u351, u352, u353, u354, u355, u356, u357, u358, u359, u360, u361, u362, u363, u364, u365, u366, u367, u368, u369, u370, u371, u372, u373], []⟩ w1) :
    Code.wp Try.prog (cutAt 1 (dropAt 13 (Try.f4.body.getD .skip)) C) (bodyPost Try.prog Try.f4 fun e w' => e = .returned (.bool true) ∧ Below w0.heap.size w0 w') ⟨#[.int .i64 (nT : Nat), .int .i64 (nG : Nat), .slice A2 m c2, .slice A3 m c3, .slice A4 m c4, .slice (some ⟨at_, 0, none⟩) n5 n5, .int .u8 v, .int .i64 (a : Nat), u8, u9, u10, u11, u12, u13, u14, u15, u16, u17, u18, .pointer (some ⟨B.p, 0, none⟩), .slice (some ⟨hb, 0, none⟩) nG nG, u21, .slice (some ⟨ob, 0, none⟩) nT nT, .slice (some ⟨wb, 0, none⟩) nT nT, u24, u25, u26, u27, u28, u29, u30, u31, u32, u33, u34, u35, u36, u37, u38, u39, u40, u41, u42, u43, u44, u45, u46, u47, u48, u49, u50, u51, u52, u53, u54, u55, u56, u57, u58, u59, u60, u61, u62, u63, u64, u65, u66, u67, u68, u69, u70, u71, u72, u73, u74, u75, u76, u77, u78, u79, u80, u81, u82, u83, u84, u85, u86, u87, u88, u89, u90, u91, u92, u93, u94, u95, u96, u97, u98, u99, u100, u101, u102, u103, u104, u105, u106, u107, u108, u109, u110, u111, u112, u113, u114, u115, u116, u117, u118, u119, u120, u121, u122, u123, u124, u125, u126, u127, u128, u129, u130, u131, u132, u133, u134, u135, u136, u137, u138, u139, u140, u141, u142, u143, u144, u145, u146, u147, u148, u149, u150, u151, u152, u153, u154, u155, u156, u157, u158, u159, u160, u161, u162, u163, u164, u165, u166, u167, u168, u169, u170, u171, u172, u173, u174, u175, u176, u177, u178, u179, u180, u181, u182, u183, u184, u185, u186, u187, u188, u189, u190, u191, u192, u193, u194, u195, u196, u197, u198, u199, u200, u201, u202, u203, u204, u205, u206, u207, u208, u209, u210, u211, u212, u213, u214, u215, u216, u217, u218, u219, u220, u221, u222, u223, u224, u225, u226, u227, u228, u229, u230, u231, u232, u233, u234, u235, u236, u237, u238, u239, u240, u241, u242, u243, u244, u245, u246, u247, u248, u249, u250, u251, u252, u253, u254, u255, u256, u257, u258, u259, u260, u261, u262, u263, u264, u265, u266, u267, u268, u269, u270, u271, u272, u273, u274, u275, u276, u277, u278, u279, u280, u281, u282, u283, u284, u285, u286, u287, u288, u289, u290, u291, u292, u293, u294, u295, u296, u297, u298, u299, u300, u301, u302, u303, u304, u305, u306, u307, u308, u309, u310, u311, u312, u313, u314, u315, u316, u317, u318, u319, u320, u321, u322, u323, u324, u325, u326, u327, u328, u329, u330, u331, u332, u333, u334, u335, u336, u337, u338, u339, u340, u341, u342, u343, u344, u345, u346, u347, u348, u349, u350, u351, u352, u353, u354, u355, u356, u357, u358, u359, u360, u361, u362, u363, u364, u365, u366, u367, u368, u369, u370, u371, u372, u373], []⟩ w := by
  conv => arg 2; simp only [Try.f4, Option.getD_some, cutAt, dropAt]
  have HC : Hid _ := @hC
  have H2 : Hid (Cells wD A2 m (fun i => .int .i64 (tx i))) := h2
  have H3 : Hid (Cells wD A3 m (fun i => .int .i64 (gs i))) := h3
  have H4 : Hid (Cells wD A4 m (fun i => .bool (rl i))) := h4
  have HFAC : Hid (∀ i, i < m → 0 ≤ tx i ∧ tx i < nT ∧ (rl i = false → 0 ≤ gs i ∧ gs i < nG)) := hfac
  have HH : Hid (Lw wD w B N nT nG hb ob wb V X md H rq L) := h
  clear hC h2 h3 h4 hfac h
  go_wp2_with fail
  go_loopw [25] (fun i wr => ∃ (k : Nat) (V : Nat → Nat → Value) (X : Nat → Nat → List Value) (md : Nat → Int) (H rq : Nat → Option Nat) (L : Nat → List Nat), k ≤ m ∧ i = .int .i64 (k : Nat) ∧ Lw wD wr B N nT nG hb ob wb V X md H rq L) (fun i _ => m - (intOf i).toNat)
  case atStart => exact ⟨0, V, X, md, H, rq, L, by omega, rfl, HH.out⟩
  case round =>
    clear HH V X md H rq L
    obtain ⟨k, V, X, md, H, rq, L, hk, rfl, hw⟩ := hrel
    have HW : Hid (Lw wD wr B N nT nG hb ob wb V X md H rq L) := hw
    by_cases hkm : k < m
    · obtain ⟨b2, o2, rfl, l2, hc2⟩ := H2.out.lit (by omega)
      obtain ⟨b3, o3, rfl, l3, hc3⟩ := H3.out.lit (by omega)
      obtain ⟨b4, o4, rfl, l4, hc4⟩ := H4.out.lit (by omega)
      have hbl := hw.lx.below
      have d2 : wr.cell? ⟨b2, o2 + k, none⟩ = some (.int .i64 (tx k)) := (World.cell?_of_block (hbl.block b2 l2)).trans (hc2 k hkm)
      have d3 : wr.cell? ⟨b3, o3 + k, none⟩ = some (.int .i64 (gs k)) := (World.cell?_of_block (hbl.block b3 l3)).trans (hc3 k hkm)
      have d4 : wr.cell? ⟨b4, o4 + k, none⟩ = some (.bool (rl k)) := (World.cell?_of_block (hbl.block b4 l4)).trans (hc4 k hkm)
      obtain ⟨f1, f2, f3⟩ := HFAC.out k hkm
      obtain ⟨t, ht⟩ : ∃ t : Nat, tx k = t := ⟨(tx k).toNat, by omega⟩
      rw [ht] at d2 f1 f2
      have htn : t < nT := by omega
      clear H2 H3 H4 HFAC HC hc2 hc3 hc4 hbl f1 f2
      cases hr : rl k with
      | true =>
        rw [hr] at d4
        have hll := hw.ll hnG htn
        have k9 := release9 (lim := lim0 nT nG) t (L t) wr hw.lx.lk rfl rfl htn (hw.x1 t htn) (fun g hg => by
          have := (hw.mem t htn g).1 hg
          exact ⟨this.1, by rw [hw.x0 g this.1, this.2]⟩) (hw.nd t htn) hll hnT hnG
        clear hw f3 d3
        go_wp2_with fail
        refine k9.mono ?_
        rintro e w1 ⟨rfl, hk1, hF1⟩
        obtain ⟨V1, hx1⟩ := rel_call HW.out hk1 hF1
        have hX3 : put2 (freed X (L t)) 1 t (ic []) 3 t = ic (L t) := by rw [put2_other _ _ (by omega), freed_other _ (by omega)]; exact HW.out.x3 t htn
        obtain ⟨A, c, hv1, _, _, _⟩ := hx1.orow htn hX3
        have HX1 : Hid (Lx wD w1 B N nT nG hb ob wb V1 (put2 (freed X (L t)) 1 t (ic [])) md (fun x => if x ∈ (L t).take 0 then -1 else nv (H x)) (fun t => nv (rq t))) := hx1
        have HX3 : Hid (put2 (freed X (L t)) 1 t (ic []) 3 t = ic (L t)) := hX3
        have HV1 : Hid (V1 3 t = .slice A (L t).length c) := hv1
        have HMEM : Hid (∀ g, g ∈ L t → g < nG) := fun g hg => ((HW.out.mem t htn g).1 hg).1
        clear k9 hk1 hF1 hx1 hX3 hv1 d2 d4
        dsimp only
        go_wp2_with fail
        go_loopw [27] (fun i wq => ∃ (j : Nat), j ≤ (L t).length ∧ i = .int .i64 (j : Nat) ∧ Lx wD wq B N nT nG hb ob wb V1 (put2 (freed X (L t)) 1 t (ic [])) md (fun x => if x ∈ (L t).take j then -1 else nv (H x)) (fun t => nv (rq t))) (fun i _ => (L t).length - (intOf i).toNat)
        case atStart => exact ⟨0, by omega, rfl, HX1.out⟩
        case round =>
          obtain ⟨j, hj, rfl, hxj⟩ := hrel
          clear HX1
          obtain ⟨A', c', hv', hown, hco, hfo⟩ := hxj.orow htn HX3.out
          rw [HV1.out] at hv'
          obtain ⟨rfl, rfl⟩ : A = A' ∧ c = c' := by simpa using hv'
          clear hv'
          by_cases hjl : j < (L t).length
          · obtain ⟨b0, cp0, e0⟩ := ownsRow_form hown (by omega)
            obtain ⟨rfl, rfl⟩ : A = some ⟨b0, 0, none⟩ ∧ c = cp0 := by simpa using e0
            obtain ⟨g, hgj⟩ : ∃ g, (L t)[j]? = some g := ⟨(L t)[j], by simp [hjl]⟩
            have hcell : wr.cell? ⟨b0, j, none⟩ = some (.int .i64 (g : Nat)) := by
              rw [World.ownsRow.cellAt hown j (by omega), ic_at, hgj]
              rfl
            have hgn := HMEM.out g (List.mem_of_getElem? hgj)
            have hch := hxj.rh.cell hgn
            have hfh := hxj.rh.frozen g
            have hnext := hxj.setH g (-1)
            rw [rel_fun H (L t) j g hgj] at hnext
            have HNX : Hid (Lx wD (wr.setCell ⟨hb, g, none⟩ (.int .i64 (-1))) B N nT nG hb ob wb V1 (put2 (freed X (L t)) 1 t (ic [])) md (fun x => if x ∈ (L t).take (j + 1) then -1 else nv (H x)) (fun t => nv (rq t))) := hnext
            clear hnext hxj hown e0 hfo
            obtain ⟨ll, hlle⟩ : ∃ ll, (L t).length = ll := ⟨_, rfl⟩
            rw [hlle] at hjl hco hll hj
            go_wp2
            go_roundw
            case rel => exact ⟨j + 1, by omega, by go_num, HNX.out⟩
            case measure => simp [intOf]; omega
          · obtain rfl : j = (L t).length := by omega
            have HE := rel_end HW.out htn hxj
            have HE' : Hid (∃ V X, Lw wD (wr.setCell ⟨ob, t, none⟩ (.slice none 0 0)) B N nT nG hb ob wb V X md (fun x => if x ∈ L t then none else H x) rq (up L t [])) := HE
            clear hxj hown HE
            go_wp2
            go_roundw
            case rel =>
              obtain ⟨V2, X2, h5⟩ := HE'.out
              exact ⟨k + 1, V2, X2, md, _, rq, _, by omega, by go_num, h5⟩
            case measure => simp [intOf]; omega
      | false =>
        obtain ⟨f4, f5⟩ := f3 hr
        obtain ⟨g, hg⟩ : ∃ g : Nat, gs k = g := ⟨(gs k).toNat, by omega⟩
        rw [hg] at d3 f4 f5
        rw [hr] at d4
        have hgn : g < nG := by omega
        have hch := hw.lx.rh.cell hgn
        have hBa : Below wr.heap.size wr (wr.alloc (.cells #[.int .i64 (g : Int)] 3)) := (Below.refl _ _).alloc (Nat.le_refl _) _
        have hcg : (wr.alloc (.cells #[.int .i64 (g : Int)] 3)).cell? ⟨wr.heap.size, 0, none⟩ = some (.int .i64 (g : Int)) := cell_newest wr _ 3 0
        have hlka := hw.lx.lk.later hBa
        clear f3 f4 f5
        cases hh : H g with
        | none =>
          rw [hh] at hch
          replace hch : wr.cell? ⟨hb, g, none⟩ = some (.int .i64 (-1)) := hch
          have k7 := lock7_free (lim := lim0 nT nG) t g wr.heap.size 0 1 (L t) (rq t).toList (wr.alloc (.cells #[.int .i64 (g : Int)] 3)) hlka rfl rfl rfl htn hgn (by rw [hw.x0 g hgn, hh]) (hw.x1 t htn) (hw.x2 t htn) (hw.ll hnG htn) hnT hnG hcg
          obtain ⟨wm, hwm⟩ : ∃ wm, wr.alloc (.cells #[.int .i64 (g : Int)] 3) = wm := ⟨_, rfl⟩
          have HWM : Hid (wr.alloc (.cells #[.int .i64 (g : Int)] 3) = wm) := hwm
          rw [hwm] at k7 hBa
          have HBA : Hid (Below wr.heap.size wr wm) := hBa
          have hll := hw.ll hnG htn
          have t1 : ((-1 : Int) == (t : Int)) = false := beq_eq_false_iff_ne.2 (by omega)
          have t2 : ¬ ((-1 : Int) = (t : Int)) := by omega
          clear hw hlka hcg hwm hBa
          go_wp2_with fail
          rw [HWM.out]
          refine k7.mono ?_
          rintro e w1 ⟨rfl, hk1, hF1⟩
          obtain ⟨V1, md1, hx1, e1, e2⟩ := grant_mid HW.out hk1 HBA.out hF1
          rw [hch] at e1
          have hX3 : granted X t g (L t) 3 t = ic (L t) := by unfold granted; rw [put2_other _ _ (by omega), put2_other _ _ (by omega), put2_other _ _ (by omega)]; exact HW.out.x3 t htn
          obtain ⟨w2, hw2⟩ : ∃ w2, w1.setCell ⟨hb, g, none⟩ (.int .i64 (t : Int)) = w2 := ⟨_, rfl⟩
          have HW2 : Hid (w1.setCell ⟨hb, g, none⟩ (.int .i64 (t : Int)) = w2) := hw2
          rw [hw2] at hx1
          obtain ⟨A, c, hv1, hown, hco, hfo⟩ := hx1.orow htn hX3
          obtain ⟨g3, cap3, w3, hrun, hT⟩ := tn_row hown hx1.lk.size hll g
          have hT' : Tn N w2 w3 (V1 3 t) (.slice (some ⟨g3, 0, none⟩) ((L t).length + 1) cap3) (ic (L t) ++ [.int .i64 (g : Int)]) := by rw [hv1]; exact hT
          have HE := grant_end HW.out htn hgn hh hx1 hT'
          have HE' : Hid (∃ V X md, Lw wD ((w3.setCell ⟨ob, t, none⟩ (.slice (some ⟨g3, 0, none⟩) ((L t).length + 1) cap3)).setCell ⟨wb, t, none⟩ (.int .i64 (-1))) B N nT nG hb ob wb V X md (up H g (some t)) (up rq t none) (up L t (L t ++ [g]))) := HE
          have hord := hx1.ord
          have hN2 := hx1.lk.size
          have low3 : ∀ b, b < N → w3.heap[b]? = w2.heap[b]? := fun b hb' => hT'.rest b (by omega) (fun e => by have := (hx1.lk.fam.blk (k := 3) (i := t) (by simpa [lim0] using htn) e).1; omega)
          have c3o : w3.cell? ⟨ob, t, none⟩ = some (.slice A (L t).length c) := (World.cell?_of_block (low3 ob (by omega))).trans hco
          have f3o : w3.frozen? ⟨ob, t, none⟩ = false := (World.frozen?_of_block (low3 ob (by omega))).trans hfo
          have c3w : w3.cell? ⟨wb, t, none⟩ = some (.int .i64 (nv (rq t))) := (World.cell?_of_block (low3 wb (by omega))).trans (hx1.rw_.cell htn)
          have f3w : w3.frozen? ⟨wb, t, none⟩ = false := (World.frozen?_of_block (low3 wb (by omega))).trans (hx1.rw_.frozen t)
          have hwo : ¬ (ob = wb) := by omega
          have hwo2 : ¬ (wb = ob) := by omega
          have hho : ¬ (hb = ob) := by omega
          have hoh : ¬ (ob = hb) := by omega
          have hos : ob < w2.heap.size := by omega
          have c1o : w1.cell? ⟨ob, t, none⟩ = some (.slice A (L t).length c) := by
            rw [← hw2, World.cell?_setCell_far _ _ _ _ (by simpa using hho)] at hco
            exact hco
          have hos1 : ob < w1.heap.size := World.block_lt_of_cell? w1 _ c1o
          rw [← hw2, nblk_setCell] at hrun
          have HRUN : Hid ((Builtin.append_ #[25, 25] 25 #[.slice A (L t).length c, .slice (some ⟨w1.heap.size, 0, none⟩) 1 1]).run Try.prog ((w1.setCell ⟨hb, g, none⟩ (.int .i64 (t : Int))).alloc (.cells #[.int .i64 (g : Int)] 3)) = .ok (.slice (some ⟨g3, 0, none⟩) ((L t).length + 1) cap3) w3) := hrun
          clear k7 hk1 hF1 hx1 hX3 hown hT hT' HE hrun low3 hv1 hord hw2 hch hco hfo
          dsimp only
          go_wp2_with (at_builtin; refine wpList_append_by rfl (.tmp 252) (.tmp 254) 25 25 rfl rfl rfl HRUN.out ?_)
          go_roundw
          case rel =>
            obtain ⟨V2, X2, md2, h5⟩ := HE'.out
            exact ⟨k + 1, V2, X2, md2, _, _, _, by omega, by go_num, h5⟩
          case measure => simp [intOf]; omega
        | some u =>
          rw [hh] at hch
          replace hch : wr.cell? ⟨hb, g, none⟩ = some (.int .i64 (u : Int)) := hch
          by_cases hut : u = t
          · subst hut
            clear hw hlka hcg hBa
            go_wp2
            go_roundw
            case rel => exact ⟨k + 1, V, X, md, H, rq, L, by omega, by go_num, HW.out⟩
            case measure => simp [intOf]; omega
          · have k7 := lock7_held (lim := lim0 nT nG) t u g wr.heap.size 0 1 (rq t).toList (wr.alloc (.cells #[.int .i64 (g : Int)] 3)) hlka rfl rfl htn hgn hut (by rw [hw.x0 g hgn, hh]) (hw.x2 t htn) hnT hnG hcg
            obtain ⟨wm, hwm⟩ : ∃ wm, wr.alloc (.cells #[.int .i64 (g : Int)] 3) = wm := ⟨_, rfl⟩
            have HWM : Hid (wr.alloc (.cells #[.int .i64 (g : Int)] 3) = wm) := hwm
            rw [hwm] at k7 hBa
            have HBA : Hid (Below wr.heap.size wr wm) := hBa
            have t1 : ((u : Int) == (t : Int)) = false := beq_eq_false_iff_ne.2 (by omega)
            have t2 : ¬ ((u : Int) = (t : Int)) := by omega
            have t3 : ((u : Int) == (-1 : Int)) = false := beq_eq_false_iff_ne.2 (by omega)
            have t4 : ¬ ((u : Int) = -1) := by omega
            have hlw := (hw.lx.later hBa)
            have hord := hw.lx.ord
            have ok := hw.lx.okh
            have o1 := ok.ho.1
            have o2 := ok.hd.1
            have o3 := ok.rf
            have cw := hlw.rw_.cell htn
            have fw := hlw.rw_.frozen t
            clear hw hlka hcg hwm hBa hlw
            go_wp2_with fail
            rw [HWM.out]
            refine k7.mono ?_
            rintro e w1 ⟨rfl, hk1, hF1⟩
            have HE := refuse_end HW.out htn hgn hk1 HBA.out hF1
            have HE' : Hid (∃ V X md, Lw wD (w1.setCell ⟨wb, t, none⟩ (.int .i64 (g : Int))) B N nT nG hb ob wb V X md H (up rq t (some g)) L) := HE
            have c1w : w1.cell? ⟨wb, t, none⟩ = some (.int .i64 (nv (rq t))) := (World.cell?_of_block (hF1.block wb (by omega) (by omega) (by omega) (by omega))).trans cw
            have f1w : w1.frozen? ⟨wb, t, none⟩ = false := (World.frozen?_of_block (hF1.block wb (by omega) (by omega) (by omega) (by omega))).trans fw
            clear k7 hk1 hF1 HE cw fw hch
            dsimp only
            go_wp2
            go_roundw
            case rel =>
              obtain ⟨V2, X2, md2, h5⟩ := HE'.out
              exact ⟨k + 1, V2, X2, md2, H, _, L, by omega, by go_num, h5⟩
            case measure => simp [intOf]; omega
    · obtain rfl : k = m := by omega
      clear hw
      go_wp2_with fail
      exact HC.out _ V X md H rq L HW.out
end Go.Proofs.Qxb6616109a
