import Derived.Test.Qxb6616109aPhB
namespace Go.Proofs.Qxb6616109a
open Go.RowKit Go.Deep Go.Joins
set_option linter.unusedVariables false

theorem same_below {w w5 wr : World} {gW hi n m : Nat} {vsB vs : Nat → Value} {zs : Nat → List Int} {own : Nat → Nat} {ab : Nat → Bool} (hB : Begun w w5 gW hi n m vsB vs zs own ab) (hs : Same (gW + 1) hi (hi + 3) gW (hi + 1) w5 wr) : Below w.heap.size w wr := by
  have h1 := hB.bgW
  have h2 := hB.lie.h2
  exact ⟨hs.os.trans hB.below.os, hs.tape.trans hB.below.tape, hs.output.trans hB.below.output, Nat.le_trans hB.below.size hs.size, fun k hk => (hs.block k (by omega) (by omega) (by omega) (by omega)).trans (hB.below.block k hk)⟩

theorem st_abort (zs : Nat → List Int) (own : Nat → Nat) (tx : Nat → Int) (ab : Nat → Bool) (k o : Nat) (ha : ab k = true) (ho : own k = o) : putL (st zs own tx ab k) o [] = st zs own tx ab (k + 1) := by
  subst ho; simp [st, ha]
theorem st_await (zs : Nat → List Int) (own : Nat → Nat) (tx : Nat → Int) (ab : Nat → Bool) (k o : Nat) (ha : ab k = false) (ho : own k = o) : putL (st zs own tx ab k) o (st zs own tx ab k o ++ [tx k]) = st zs own tx ab (k + 1) := by
  subst ho; simp [st, ha]

set_option maxHeartbeats 4000000 in
set_option maxRecDepth 100000 in
theorem phaseC (C : Code) (w w5 : World) (gW hi : Nat) (vsB vs : Nat → Value) (A1 A2 A3 : Option Addr) (n m c1 c2 c3 : Nat) (zs : Nat → List Int) (ow tx : Nat → Int) (ab : Nat → Bool)
    (hn : n ≤ 4096) (hm : m ≤ 4096) (hz : ∀ r, r < n → (zs r).length ≤ 131072) (hB : Begun w w5 gW hi n m vsB vs zs (fun i => (ow i).toNat) ab)
    (hc1 : Cells w A1 m (fun i => .int .i64 (tx i))) (hc2 : Cells w A2 m (fun i => .int .i64 (ow i))) (hc3 : Cells w A3 m (fun i => .bool (ab i))) (how : ∀ i, i < m → 0 ≤ ow i ∧ ow i < n)
    {u4 u5 u6 u7 u8 u9 u10 u11 u14 u15 u17 u18 u19 u20 u21 u22 u23 u24 u25 u26 u27 u28 u29 u30 u31 u32 u33 u34 u35 u36 u37 u38 u39 u40 u41 u42 u43 u44 u45 u46 u47 u48 u49 u50 u51 u52 u53 u54 u55 u56 u57 u58 u59 u60 u61 u62 u63 u64 u65 u66 u67 u68 u69 u70 u71 u72 u73 u74 u75 u76 u77 u78 u79 u80 u81 u82 u83 u84 u85 u86 u87 u88 u89 u90 u91 u92 u93 u94 u95 u96 u97 u98 u99 u100 u101 u102 u103 u104 u105 u106 u107 u108 u109 u110 u111 u112 u113 u114 u115 u116 u117 u118 u119 u120 u121 u122 u123 u124 u125 u126 u127 u128 u129 u130 u131 u132 u133 u134 u135 u136 u137 u138 u139 u140 u141 u142 u143 u144 u145 u146 u147 u148 u149 u150 u151 u152 u153 u154 u155 u156 u157 u158 u159 u160 u161 u162 u163 u164 u165 u166 u167 u168 u169 u170 u171 u172 u173 u174 u175 u176 u177 u178 u179 u180 u181 u182 u183 u184 u185 u186 u187 u188 u189 u190 u191 u192 u193 u194 u195 u196 u197 u198 u199 u200 u201 u202 u203 u204 u205 u206 u207 u208 u209 u210 u211 u212 u213 u214 u215 u216 u217 u218 u219 u220 u221 u222 u223 u224 u225 u226 u227 u228 u229 u230 u231 u232 u233 u234 u235 u236 u237 u238 u239 u240 u241 u242 u243 u244 u245 u246 u247 u248 u249 u250 u251 u252 u253 u254 u255 u256 u257 u258 u259 u260 u261 u262 u263 u264 u265 u266 u267 u268 u269 u270 u271 u272 u273 u274 u275 u276 u277 u278 u279 u280 u281 u282 u283 u284 u285 u286 u287 u288 u289 u290 u291 u292 u293 u294 u295 u296 u297 u298 u299 u300 u301 u302 u303 u304 u305 : Value}
    (hC : ∀ (w6 : World) (vs' : Nat → Value) {u4 u5 u6 u7 u8 u9 u10 u11 u14 u15 u17 u18 u19 u20 u21 u22 u23 u24 u25 u26 u27 u28 u29 u30 u31 u32 u33 u34 u35 u36 u37 u38 u39 u40 u41 u42 u43 u44 u45 u46 u47 u48 u49 u50 u51 u52 u53 u54 u55 u56 u57 u58 u59 u60 u61 u62 u63 u64 u65 u66 u67 u68 u69 u70 u71 u72 u73 u74 u75 u76 u77 u78 u79 u80 u81 u82 u83 u84 u85 u86 u87 u88 u89 u90 u91 u92 u93 u94 u95 u96 u97 u98 u99 u100 u101 u102 u103 u104 u105 u106 u107 u108 u109 u110 u111 u112 u113 u114 u115 u116 u117 u118 u119 u120 u121 u122 u123 u124 u125 u126 u127 u128 u129 u130 u131 u132 u133 u134 u135 u136 u137 u138 u139 u140 u141 u142 u143 u144 u145 u146 u147 u148 u149 u150 u151 u152 u153 u154 u155 u156 u157 u158 u159 u160 u161 u162 u163 u164 u165 u166 u167 u168 u169 u170 u171 u172 u173 u174 u175 u176 u177 u178 u179 u180 u181 u182 u183 u184 u185 u186 u187 u188 u189 u190 u191 u192 u193 u194 u195 u196 u197 u198 u199 u200 u201 u202 u203 u204 u205 u206 u207 u208 u209 u210 u211 u212 u213 u214 u215 u216 u217 u218 u219 u220 u221 u222 u223 u224 u225 u226 u227 u228 u229 u230 u231 u232 u233 u234 u235 u236 u237 u238 u239 u240 u241 u242 u243 u244 u245 u246 u247 u248 u249 u250 u251 u252 u253 u254 u255 u256 u257 u258 u259 u260 u261 u262 u263 u264 u265 u266 u267 u268 u269 u270 u271 u272 u273 u274 u275 u276 u277 u278 u279 u280 u281 u282 u283 u284 u285 u286 u287 u288 u289 u290 u291 u292 u293 u294 u295 u296 u297 u298 u299 u300 u301 u302 u303 u304 u305 : Value}, Ts w6 (gW + 1) hi (hi + 3) (hi + 2) gW (hi + 1) n vs' (st zs (fun i => (ow i).toNat) tx ab m) → Same (gW + 1) hi (hi + 3) gW (hi + 1) w5 w6 →
      Code.wp Try.prog C (bodyPost Try.prog Try.f5 fun e w' => e = .returned (.bool true) ∧ Below w.heap.size w w') ⟨#[.slice (some ⟨gW, 0, none⟩) n n, .slice A1 m c1, .slice A2 m c2, .slice A3 m c3, u4, u5, u6, u7, u8, u9, u10, u11, .slice (some ⟨w.heap.size, 0, none⟩) n n, .slice (some ⟨hi, 0, none⟩) n n, u14, u15, .pointer (some ⟨hi + 2, 0, none⟩), u17, u18, u19, u20, u21, u22, u23, u24, u25, u26, u27, u28, u29, u30, u31, u32, u33, u34, u35, u36, u37, u38, u39, u40, u41, u42, u43, u44, u45, u46, u47, u48, u49, u50, u51, u52, u53, u54, u55, u56, u57, u58, u59, u60, u61, u62, u63, u64, u65, u66, u67, u68, u69, u70, u71, u72, u73, u74, u75, u76, u77, u78, u79, u80, u81, u82, u83, u84, u85, u86, u87, u88, u89, u90, u91, u92, u93, u94, u95, u96, u97, u98, u99, u100, u101, u102, u103, u104, u105, u106, u107, u108, u109, u110, u111, u112, u113, u114, u115, u116, u117, u118, u119, u120, u121, u122, u123, u124, u125, u126, u127, u128, u129, u130, u131, u132, u133, u134, u135, u136, u137, u138, u139, u140, u141, u142, u143, u144, u145, u146, u147, u148, u149, u150, u151, u152, u153, u154, u155, u156, u157, u158, u159, u160, u161, u162, u163, u164, u165, u166, u167, u168, u169, u170, u171, u172, u173, u174, u175, u176, u177, u178, u179, u180, u181, u182, u183, u184, u185, u186, u187, u188, u189, u190, u191, u192, u193, u194, u195, u196, u197, u198, u199, u200, u201, u202, u203, u204, u205, u206, u207, u208, u209, u210, u211, u212, u213, u214, u215, u216, u217, u218, u219, u220, u221, u222, u223, u224, u225, u226, u227, u228, u229, u230, u231, u232, u233, u234, u235, u236, u237, u238, u239, u240, u241, u242, u243, u244, u245, u246, u247, u248, u249, u250, u251, u252, u253, u254, u255, u256, u257, u258, u259, u260, u261, u262, u263, u264, u265, u266, u267, u268, u269, u270, u271, u272, u273, u274, u275, u276, u277, u278, u279, u280, u281, u282, u283, u284, u285, u286, u287, u288, u289, u290, u291, u292, u293, u294, u295, u296, u297, u298, u299, u300, u301, u302, u303, u304, u305], []⟩ w6) :
    Code.wp Try.prog (cutAt 1 (dropAt 13 (Try.f5.body.getD .skip)) C) (bodyPost Try.prog Try.f5 fun e w' => e = .returned (.bool true) ∧ Below w.heap.size w w') ⟨#[.slice (some ⟨gW, 0, none⟩) n n, .slice A1 m c1, .slice A2 m c2, .slice A3 m c3, u4, u5, u6, u7, u8, u9, u10, u11, .slice (some ⟨w.heap.size, 0, none⟩) n n, .slice (some ⟨hi, 0, none⟩) n n, u14, u15, .pointer (some ⟨hi + 2, 0, none⟩), u17, u18, u19, u20, u21, u22, u23, u24, u25, u26, u27, u28, u29, u30, u31, u32, u33, u34, u35, u36, u37, u38, u39, u40, u41, u42, u43, u44, u45, u46, u47, u48, u49, u50, u51, u52, u53, u54, u55, u56, u57, u58, u59, u60, u61, u62, u63, u64, u65, u66, u67, u68, u69, u70, u71, u72, u73, u74, u75, u76, u77, u78, u79, u80, u81, u82, u83, u84, u85, u86, u87, u88, u89, u90, u91, u92, u93, u94, u95, u96, u97, u98, u99, u100, u101, u102, u103, u104, u105, u106, u107, u108, u109, u110, u111, u112, u113, u114, u115, u116, u117, u118, u119, u120, u121, u122, u123, u124, u125, u126, u127, u128, u129, u130, u131, u132, u133, u134, u135, u136, u137, u138, u139, u140, u141, u142, u143, u144, u145, u146, u147, u148, u149, u150, u151, u152, u153, u154, u155, u156, u157, u158, u159, u160, u161, u162, u163, u164, u165, u166, u167, u168, u169, u170, u171, u172, u173, u174, u175, u176, u177, u178, u179, u180, u181, u182, u183, u184, u185, u186, u187, u188, u189, u190, u191, u192, u193, u194, u195, u196, u197, u198, u199, u200, u201, u202, u203, u204, u205, u206, u207, u208, u209, u210, u211, u212, u213, u214, u215, u216, u217, u218, u219, u220, u221, u222, u223, u224, u225, u226, u227, u228, u229, u230, u231, u232, u233, u234, u235, u236, u237, u238, u239, u240, u241, u242, u243, u244, u245, u246, u247, u248, u249, u250, u251, u252, u253, u254, u255, u256, u257, u258, u259, u260, u261, u262, u263, u264, u265, u266, u267, u268, u269, u270, u271, u272, u273, u274, u275, u276, u277, u278, u279, u280, u281, u282, u283, u284, u285, u286, u287, u288, u289, u290, u291, u292, u293, u294, u295, u296, u297, u298, u299, u300, u301, u302, u303, u304, u305], []⟩ w5 := by
  conv => arg 2; simp only [Try.f5, Option.getD_some, cutAt, dropAt]
  have HC : Hid _ := @hC
  have HB : Hid (Begun w w5 gW hi n m vsB vs zs (fun i => (ow i).toNat) ab) := hB
  have HZ : Hid (∀ r, r < n → (zs r).length ≤ 131072) := hz
  have H1 : Hid (Cells w A1 m (fun i => .int .i64 (tx i))) := hc1
  have H2 : Hid (Cells w A2 m (fun i => .int .i64 (ow i))) := hc2
  have H3 : Hid (Cells w A3 m (fun i => .bool (ab i))) := hc3
  have H5 : Hid (∀ i, i < m → 0 ≤ ow i ∧ ow i < n) := how
  clear hC hB hz hc1 hc2 hc3 how
  go_wp2
  go_loopw [17] (fun i wr => ∃ (k : Nat) (vs' : Nat → Value), k ≤ m ∧ i = .int .i64 k ∧ Ts wr (gW + 1) hi (hi + 3) (hi + 2) gW (hi + 1) n vs' (st zs (fun i => (ow i).toNat) tx ab k) ∧ Same (gW + 1) hi (hi + 3) gW (hi + 1) w5 wr) (fun i _ => m - (intOf i).toNat)
  case atStart => exact ⟨0, vs, Nat.zero_le _, rfl, HB.out.ts, Same.refl _ _ _ _ _ _⟩
  case round =>
    obtain ⟨k, vs', hk, rfl, hts, hsm⟩ := hrel
    have hbl := same_below HB.out hsm
    have K1 := H1.out.below hbl (Nat.le_refl _)
    have K2 := H2.out.below hbl (Nat.le_refl _)
    have K3 := H3.out.below hbl (Nat.le_refl _)
    have HS : Hid (Same (gW + 1) hi (hi + 3) gW (hi + 1) w5 wr) := hsm
    have HT : Hid (Ts wr (gW + 1) hi (hi + 3) (hi + 2) gW (hi + 1) n vs' (st zs (fun i => (ow i).toNat) tx ab k)) := hts
    clear hts hsm hbl H1 H2 H3
    by_cases hlt : k < m
    · obtain ⟨b1, o1, rfl, _, hcc1⟩ := K1.lit (by omega)
      obtain ⟨b2, o2, rfl, _, hcc2⟩ := K2.lit (by omega)
      obtain ⟨b3, o3, rfl, _, hcc3⟩ := K3.lit (by omega)
      have k1 := hcc1 k hlt
      have k2 := hcc2 k hlt
      have k3 := hcc3 k hlt
      have k5 := H5.out k hlt
      obtain ⟨o, hz⟩ : ∃ o : Nat, ow k = o := ⟨(ow k).toNat, by omega⟩
      have HO : Hid ((ow k).toNat = o) := by show (ow k).toNat = o; omega
      rw [hz] at k2 k5
      have ho : o < n := by omega
      have HLn : Hid ((st zs (fun i => (ow i).toNat) tx ab k o).length ≤ 1048576) := by
        have h1 := st_len zs (fun i => (ow i).toNat) tx ab k o
        have h2 := HZ.out o ho
        show (st zs (fun i => (ow i).toNat) tx ab k o).length ≤ 1048576
        omega
      clear hcc1 hcc2 hcc3 K1 K2 K3 hz HC
      cases ha : ab k with
      | true =>
        rw [ha] at k3
        have HA : Hid (ab k = true) := ha
        clear ha
        go_wp2_with fail
        refine (abort15 (gW + 1) hi (hi + 3) (hi + 2) gW (hi + 1) n vs' _ o wr HB.out.lie HT.out ho (by omega) HLn.out).mono ?_
        rintro e w1 ⟨rfl, ⟨vs2, h1⟩, h2⟩
        dsimp only
        rw [st_abort zs (fun i => (ow i).toNat) tx ab k o HA.out HO.out] at h1
        have G1 : Hid _ := h1
        have G2 : Hid _ := h2
        clear h1 h2
        go_wp2
        go_roundw
        case rel => exact ⟨k + 1, vs2, by omega, by go_num, G1.out, HS.out.trans G2.out⟩
        case measure => simp [intOf]; omega
      | false =>
        rw [ha] at k3
        have HA : Hid (ab k = false) := ha
        clear ha
        have hcall := await16 (gW + 1) hi (hi + 3) (hi + 2) gW (hi + 1) n vs' _ (tx k) o wr.drew HB.out.lie (ts_drew HT.out) ho (by omega) HLn.out
        rw [st_await zs (fun i => (ow i).toNat) tx ab k o HA.out HO.out] at hcall
        go_wp2
        go_region_with (go_at_call 16; refine hcall.mono ?_; rintro e w1 ⟨rfl, ⟨vs2, h1⟩, h2⟩; dsimp only; have G1 : Hid _ := h1; have G2 : Hid _ := h2; clear h1 h2 hcall)
        all_goals
          go_wp2
          go_roundw
          case rel => exact ⟨k + 1, vs2, by omega, by go_num, G1.out, HS.out.trans ⟨G2.out.os, G2.out.tape, G2.out.output, G2.out.size, G2.out.block⟩⟩
          case measure => simp [intOf]; omega
    · obtain rfl : k = m := by omega
      go_wp2
      exact HC.out _ _ HT.out HS.out
end Go.Proofs.Qxb6616109a
