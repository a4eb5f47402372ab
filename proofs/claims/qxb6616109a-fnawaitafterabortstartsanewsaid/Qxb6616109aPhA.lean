import Derived.Test.Qxb6616109aRel
import Derived.Test.Qxb6616109aBytes
import Derived.Test.Qxb6616109aCut
import Derived.BigQuiet
import Derived.Deep.QuietTactic
import Derived.Deep.RegionWith
namespace Go.Proofs.Qxb6616109a
open Go.RowKit Go.Deep Go.Joins
set_option linter.unusedVariables false

set_option maxHeartbeats 4000000 in
set_option maxRecDepth 100000 in
theorem phaseA (C : Code) (w : World) (A0 A1 A2 A3 : Option Addr) (n0 c0 n1 c1 n2 c2 n3 c3 : Nat) (AA : Nat → Option Addr) (L CC : Nat → Nat) (ow : Nat → Int)
    (h0 : n0 ≤ maxLen) (h1 : n1 ≤ maxLen) (h2 : n2 ≤ maxLen) (h3 : n3 ≤ maxLen) (hL : ∀ r, r < n0 → L r ≤ maxLen)
    (hc : Cells w A0 n0 (fun r => .slice (AA r) (L r) (CC r))) (hc2 : Cells w A2 n2 (fun i => .int .i64 (ow i))) (hwf : ∀ i, i < n2 → In64 (ow i))
    {u4 u5 u6 u7 u8 u9 u10 u11 u12 u13 u14 u15 u16 u17 u18 u19 u20 u21 u22 u23 u24 u25 u26 u27 u28 u29 u30 u31 u32 u33 u34 u35 u36 u37 u38 u39 u40 u41 u42 u43 u44 u45 u46 u47 u48 u49 u50 u51 u52 u53 u54 u55 u56 u57 u58 u59 u60 u61 u62 u63 u64 u65 u66 u67 u68 u69 u70 u71 u72 u73 u74 u75 u76 u77 u78 u79 u80 u81 u82 u83 u84 u85 u86 u87 u88 u89 u90 u91 u92 u93 u94 u95 u96 u97 u98 u99 u100 u101 u102 u103 u104 u105 u106 u107 u108 u109 u110 u111 u112 u113 u114 u115 u116 u117 u118 u119 u120 u121 u122 u123 u124 u125 u126 u127 u128 u129 u130 u131 u132 u133 u134 u135 u136 u137 u138 u139 u140 u141 u142 u143 u144 u145 u146 u147 u148 u149 u150 u151 u152 u153 u154 u155 u156 u157 u158 u159 u160 u161 u162 u163 u164 u165 u166 u167 u168 u169 u170 u171 u172 u173 u174 u175 u176 u177 u178 u179 u180 u181 u182 u183 u184 u185 u186 u187 u188 u189 u190 u191 u192 u193 u194 u195 u196 u197 u198 u199 u200 u201 u202 u203 u204 u205 u206 u207 u208 u209 u210 u211 u212 u213 u214 u215 u216 u217 u218 u219 u220 u221 u222 u223 u224 u225 u226 u227 u228 u229 u230 u231 u232 u233 u234 u235 u236 u237 u238 u239 u240 u241 u242 u243 u244 u245 u246 u247 u248 u249 u250 u251 u252 u253 u254 u255 u256 u257 u258 u259 u260 u261 u262 u263 u264 u265 u266 u267 u268 u269 u270 u271 u272 u273 u274 u275 u276 u277 u278 u279 u280 u281 u282 u283 u284 u285 u286 u287 u288 u289 u290 u291 u292 u293 u294 u295 u296 u297 u298 u299 u300 u301 u302 u303 u304 u305 : Value}
    (hC : ∀ {u4 u5 u6 u7 u8 u9 u10 u11 u12 u13 u14 u15 u16 u17 u18 u19 u20 u21 u22 u23 u24 u25 u26 u27 u28 u29 u30 u31 u32 u33 u34 u35 u36 u37 u38 u39 u40 u41 u42 u43 u44 u45 u46 u47 u48 u49 u50 u51 u52 u53 u54 u55 u56 u57 u58 u59 u60 u61 u62 u63 u64 u65 u66 u67 u68 u69 u70 u71 u72 u73 u74 u75 u76 u77 u78 u79 u80 u81 u82 u83 u84 u85 u86 u87 u88 u89 u90 u91 u92 u93 u94 u95 u96 u97 u98 u99 u100 u101 u102 u103 u104 u105 u106 u107 u108 u109 u110 u111 u112 u113 u114 u115 u116 u117 u118 u119 u120 u121 u122 u123 u124 u125 u126 u127 u128 u129 u130 u131 u132 u133 u134 u135 u136 u137 u138 u139 u140 u141 u142 u143 u144 u145 u146 u147 u148 u149 u150 u151 u152 u153 u154 u155 u156 u157 u158 u159 u160 u161 u162 u163 u164 u165 u166 u167 u168 u169 u170 u171 u172 u173 u174 u175 u176 u177 u178 u179 u180 u181 u182 u183 u184 u185 u186 u187 u188 u189 u190 u191 u192 u193 u194 u195 u196 u197 u198 u199 u200 u201 u202 u203 u204 u205 u206 u207 u208 u209 u210 u211 u212 u213 u214 u215 u216 u217 u218 u219 u220 u221 u222 u223 u224 u225 u226 u227 u228 u229 u230 u231 u232 u233 u234 u235 u236 u237 u238 u239 u240 u241 u242 u243 u244 u245 u246 u247 u248 u249 u250 u251 u252 u253 u254 u255 u256 u257 u258 u259 u260 u261 u262 u263 u264 u265 u266 u267 u268 u269 u270 u271 u272 u273 u274 u275 u276 u277 u278 u279 u280 u281 u282 u283 u284 u285 u286 u287 u288 u289 u290 u291 u292 u293 u294 u295 u296 u297 u298 u299 u300 u301 u302 u303 u304 u305 : Value}, n0 ≤ 4096 → n1 ≤ 4096 → n2 = n1 → n3 = n1 → (∀ r, r < n0 → L r ≤ 131072) → (∀ i, i < n2 → 0 ≤ ow i ∧ ow i < n0) →
      Code.wp Try.prog C (bodyPost Try.prog Try.f5 fun e w' => e = .returned (.bool true) ∧ Below w.heap.size w w') ⟨#[.slice A0 n0 c0, .slice A1 n1 c1, .slice A2 n2 c2, .slice A3 n3 c3, u4, u5, u6, u7, u8, u9, u10, u11, u12, u13, u14, u15, u16, u17, u18, u19, u20, u21, u22, u23, u24, u25, u26, u27, u28, u29, u30, u31, u32, u33, u34, u35, u36, u37, u38, u39, u40, u41, u42, u43, u44, u45, u46, u47, u48, u49, u50, u51, u52, u53, u54, u55, u56, u57, u58, u59, u60, u61, u62, u63, u64, u65, u66, u67, u68, u69, u70, u71, u72, u73, u74, u75, u76, u77, u78, u79, u80, u81, u82, u83, u84, u85, u86, u87, u88, u89, u90, u91, u92, u93, u94, u95, u96, u97, u98, u99, u100, u101, u102, u103, u104, u105, u106, u107, u108, u109, u110, u111, u112, u113, u114, u115, u116, u117, u118, u119, u120, u121, u122, u123, u124, u125, u126, u127, u128, u129, u130, u131, u132, u133, u134, u135, u136, u137, u138, u139, u140, u141, u142, u143, u144, u145, u146, u147, u148, u149, u150, u151, u152, u153, u154, u155, u156, u157, u158, u159, u160, u161, u162, u163, u164, u165, u166, u167, u168, u169, u170, u171, u172, u173, u174, u175, u176, u177, u178, u179, u180, u181, u182, u183, u184, u185, u186, u187, u188, u189, u190, u191, u192, u193, u194, u195, u196, u197, u198, u199, u200, u201, u202, u203, u204, u205, u206, u207, u208, u209, u210, u211, u212, u213, u214, u215, u216, u217, u218, u219, u220, u221, u222, u223, u224, u225, u226, u227, u228, u229, u230, u231, u232, u233, u234, u235, u236, u237, u238, u239, u240, u241, u242, u243, u244, u245, u246, u247, u248, u249, u250, u251, u252, u253, u254, u255, u256, u257, u258, u259, u260, u261, u262, u263, u264, u265, u266, u267, u268, u269, u270, u271, u272, u273, u274, u275, u276, u277, u278, u279, u280, u281, u282, u283, u284, u285, u286, u287, u288, u289, u290, u291, u292, u293, u294, u295, u296, u297, u298, u299, u300, u301, u302, u303, u304, u305], []⟩ w) :
    Code.wp Try.prog (cutAt 7 (Try.f5.body.getD .skip) C) (bodyPost Try.prog Try.f5 fun e w' => e = .returned (.bool true) ∧ Below w.heap.size w w') ⟨#[.slice A0 n0 c0, .slice A1 n1 c1, .slice A2 n2 c2, .slice A3 n3 c3, u4, u5, u6, u7, u8, u9, u10, u11, u12, u13, u14, u15, u16, u17, u18, u19, u20, u21, u22, u23, u24, u25, u26, u27, u28, u29, u30, u31, u32, u33, u34, u35, u36, u37, u38, u39, u40, u41, u42, u43, u44, u45, u46, u47, u48, u49, u50, u51, u52, u53, u54, u55, u56, u57, u58, u59, u60, u61, u62, u63, u64, u65, u66, u67, u68, u69, u70, u71, u72, u73, u74, u75, u76, u77, u78, u79, u80, u81, u82, u83, u84, u85, u86, u87, u88, u89, u90, u91, u92, u93, u94, u95, u96, u97, u98, u99, u100, u101, u102, u103, u104, u105, u106, u107, u108, u109, u110, u111, u112, u113, u114, u115, u116, u117, u118, u119, u120, u121, u122, u123, u124, u125, u126, u127, u128, u129, u130, u131, u132, u133, u134, u135, u136, u137, u138, u139, u140, u141, u142, u143, u144, u145, u146, u147, u148, u149, u150, u151, u152, u153, u154, u155, u156, u157, u158, u159, u160, u161, u162, u163, u164, u165, u166, u167, u168, u169, u170, u171, u172, u173, u174, u175, u176, u177, u178, u179, u180, u181, u182, u183, u184, u185, u186, u187, u188, u189, u190, u191, u192, u193, u194, u195, u196, u197, u198, u199, u200, u201, u202, u203, u204, u205, u206, u207, u208, u209, u210, u211, u212, u213, u214, u215, u216, u217, u218, u219, u220, u221, u222, u223, u224, u225, u226, u227, u228, u229, u230, u231, u232, u233, u234, u235, u236, u237, u238, u239, u240, u241, u242, u243, u244, u245, u246, u247, u248, u249, u250, u251, u252, u253, u254, u255, u256, u257, u258, u259, u260, u261, u262, u263, u264, u265, u266, u267, u268, u269, u270, u271, u272, u273, u274, u275, u276, u277, u278, u279, u280, u281, u282, u283, u284, u285, u286, u287, u288, u289, u290, u291, u292, u293, u294, u295, u296, u297, u298, u299, u300, u301, u302, u303, u304, u305], []⟩ w := by
  conv => arg 2; simp only [Try.f5, Option.getD_some, cutAt]
  have hb12 := bytes12 A0 A1 A2 A3 n0 c0 n1 c1 n2 c2 n3 c3 AA L CC w h0 h1 h2 h3 hL hc
  unfold maxLen at h0 h1 h2 h3 hL
  have HC : Hid _ := @hC
  clear hC
  go_wp2_with fail
  refine hb12.mono ?_
  rintro e w' ⟨⟨b, rfl, hbb⟩, hw⟩
  have hw := hw.symm
  subst hw
  clear hb12
  dsimp only
  have H1 : Hid (Cells w A0 n0 (fun r => .slice (AA r) (L r) (CC r))) := hc
  have H2 : Hid (Cells w A2 n2 (fun i => .int .i64 (ow i))) := hc2
  have H3 : Hid (∀ i, i < n2 → In64 (ow i)) := hwf
  have H4 : Hid (b = true → ∀ r, r < n0 → L r ≤ 1048576) := hbb
  clear hc hc2 hwf hL hbb
  cases b
  · go_wp2
    go_ret
    exact ⟨rfl, Below.refl _ _⟩
  · go_wp2
    all_goals try (go_ret; exact ⟨rfl, Below.refl _ _⟩)
    go_loop [9, 10] (fun z i => ∃ (k : Nat) (s : Int), k ≤ n0 ∧ i = .int .i64 k ∧ z = .int .i64 s ∧ 0 ≤ s ∧ s ≤ 1048576 ∧ ∀ r, r < k → L r ≤ 131072) (fun _ i => n0 - (intOf i).toNat)
    case atStart => exact ⟨0, _, Nat.zero_le _, rfl, rfl, by omega, by omega, fun r hr => by omega⟩
    case round =>
      obtain ⟨k, s, hk, rfl, rfl, hs0, hs1, hLk⟩ := hrel
      have HLk : Hid (∀ r, r < k → L r ≤ 131072) := hLk
      clear hLk
      by_cases hlt : k < n0
      · obtain ⟨b, off, rfl, hb, hcc⟩ := H1.out.lit (by omega)
        have hck := hcc k hlt
        have hLk := H4.out rfl k hlt
        clear hcc HC H1 H2 H3 H4
        go_wp2
        · go_ret
          exact ⟨rfl, Below.refl _ _⟩
        · go_round
          case rel => exact ⟨k + 1, _, by omega, by go_num, rfl, by omega, by omega, fun r hr => by by_cases e : r = k; (subst e; omega); exact HLk.out r (by omega)⟩
          case measure => simp [intOf]; omega
      · have hLall : Hid (∀ r, r < n0 → L r ≤ 131072) := fun r hr => HLk.out r (by omega)
        clear HLk
        go_wp2
        all_goals try (go_ret; exact ⟨rfl, Below.refl _ _⟩)
        have e2 : n2 = n1 := by omega
        have h3' : ((n3 : Int) != (n1 : Int)) = false := by assumption
        have e3 : n3 = n1 := by simp at h3'; omega
        clear h3'
        go_loop [11] (fun i => ∃ (k : Nat), k ≤ n2 ∧ i = .int .i64 k ∧ ∀ r, r < k → 0 ≤ ow r ∧ ow r < n0) (fun i => n2 - (intOf i).toNat)
        case atStart => exact ⟨0, Nat.zero_le _, rfl, fun r hr => by omega⟩
        case round =>
          obtain ⟨k2, hk2, rfl, hO⟩ := hrel
          have HO : Hid (∀ r, r < k2 → 0 ≤ ow r ∧ ow r < n0) := hO
          clear hO
          by_cases hlt2 : k2 < n2
          · obtain ⟨b2, off2, rfl, hb2, hcc2⟩ := H2.out.lit (by omega)
            have hck2 := hcc2 k2 hlt2
            have hw2 := H3.out k2 hlt2
            unfold In64 at hw2
            obtain ⟨z, hz⟩ : ∃ z, ow k2 = z := ⟨_, rfl⟩
            rw [hz] at hck2 hw2
            have HZ : Hid (ow k2 = z) := hz
            clear hcc2 H1 H2 H3 H4 HC hz
            go_wp2
            all_goals try (go_ret; exact ⟨rfl, Below.refl _ _⟩)
            · go_round
              case rel => exact ⟨k2 + 1, by omega, by go_num, fun r hr => by by_cases e : r = k2; (subst e; rw [HZ.out]; omega); exact HO.out r (by omega)⟩
              case measure => simp [intOf]; omega
          · go_wp2
            exact HC.out (by omega) (by omega) e2 e3 hLall.out (fun i hi => HO.out i (by omega))
end Go.Proofs.Qxb6616109a
