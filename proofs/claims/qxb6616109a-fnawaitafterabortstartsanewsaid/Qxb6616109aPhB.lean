import Derived.Test.Qxb6616109aRel
import Derived.Test.Qxb6616109aBytes
import Derived.Test.Qxb6616109aCut
import Derived.BigQuiet
import Derived.Deep.QuietTactic
import Derived.Deep.RegionWith
namespace Go.Proofs.Qxb6616109a
open Go.RowKit Go.Deep Go.Joins
set_option linter.unusedVariables false

/-- What lies in memory when the script begins: 'before', 'last', the timestamps. -/
structure Begun (w w5 : World) (gW hi n m : Nat) (vsB vs : Nat → Value) (zs : Nat → List Int) (own : Nat → Nat) (ab : Nat → Bool) : Prop where
  below : Below w.heap.size w w5
  bef : Jag w5 (w.heap.size + 1) w.heap.size n n vsB zs
  befs : ∀ r b, r < n → (vsB r).ownBlock = some b → b < gW
  last : w5.rowIs hi 3 n (fun o => .int .i64 (lastAt own ab m o))
  lie : Lie (gW + 1) hi (hi + 3) (hi + 2) gW (hi + 1)
  ts : Ts w5 (gW + 1) hi (hi + 3) (hi + 2) gW (hi + 1) n vs zs
  bgW : w.heap.size < gW

theorem jag_blocks {w w' : World} {lo g n B : Nat} {vs : Nat → Value} {zs : Nat → List Int} (hj : Jag w lo g n n vs zs) (hb : Below B w w') (hB : w.heap.size ≤ B) : Jag w' lo g n n vs zs := by
  refine ⟨hj.outer.of_block (hb.block _ (by have := hj.outer.lt; omega)), fun r hr => ?_, hj.ap⟩
  refine ⟨(hj.row r hr).1, ?_⟩
  rcases (hj.row r hr).2 with h0 | ⟨g', cap, cur, hv', hb', hg', r'⟩
  · exact Or.inl h0
  · exact Or.inr ⟨g', cap, cur, hv', hb', by rw [hb.block _ (by have := lt_of_block hg'; omega)]; exact hg', r'⟩

theorem begun_mk {w w1 w2 : World} {n m : Nat} {vsB vs : Nat → Value} {zs : Nat → List Int} {own : Nat → Nat} {ab : Nat → Bool} {c : Array Value} {w5 : World}
    (hjB : Jag w1 (w.heap.size + 1) w.heap.size n n vsB zs) (hb1 : Below w.heap.size w w1) (hjW : Jag w2 (w1.heap.size + 1) w1.heap.size n n vs zs) (hb2 : Below w1.heap.size w1 w2)
    (hc : c.size = n) (hl : ∀ o, o < n → c[o]? = some (.int .i64 (lastAt own ab m o)))
    (h5 : w5 = ((w2.alloc (.cells c 3)).alloc (.cells (madeCells #[.slice none 0 0] n) 25)).alloc (.cells (tsCells Try.zeroCells74 (some ⟨w1.heap.size, 0, none⟩) n n (some ⟨w2.heap.size + 1, 0, none⟩) n n) 74)) :
    Begun w w5 w1.heap.size w2.heap.size n m vsB vs zs own ab := by
  have s1 : (w2.alloc (.cells c 3)).heap.size = w2.heap.size + 1 := nblk_alloc _ _
  have s12 : w1.heap.size < w2.heap.size := hjW.outer.lt
  have s01 : w.heap.size < w1.heap.size := hjB.outer.lt
  have b25 : Below w2.heap.size w2 w5 := by
    subst h5
    exact (((Below.refl _ _).alloc (Nat.le_refl _) _).alloc (by rw [s1]; omega) _).alloc (by rw [nblk_alloc, s1]; omega) _
  have hjW1 : Jag (w2.alloc (.cells c 3)) (w1.heap.size + 1) w1.heap.size n n vs zs := jag_blocks hjW ((Below.refl _ _).alloc (Nat.le_refl _) _) (Nat.le_refl _)
  have hT := ts_made (w := w2.alloc (.cells c 3)) (hi := w2.heap.size) (w1 := w5) hjW1 (by rw [s1]; omega) (by omega) (by omega) (fun r b hr hb => ((hjW.row r hr).lt b hb).2) (by rw [s1]; exact h5)
  rw [s1] at hT
  have hb15 : Below w1.heap.size w1 w5 := hb2.trans (b25.mono (by omega))
  refine ⟨hb1.trans (hb15.mono (by omega)), jag_blocks hjB hb15 (Nat.le_refl _), fun r b hr hb => ((hjB.row r hr).lt b hb).2, ?_, hT.1, hT.2, s01⟩
  subst h5
  have h0 : (w2.alloc (.cells c 3)).rowIs w2.heap.size 3 n (fun o => .int .i64 (lastAt own ab m o)) := by
    rw [← hc]
    exact World.rowIs_alloc w2 c 3 _ (fun i hi => hl i (by omega))
  exact (h0.alloc _).alloc _

theorem last_step {c : Array Value} {n k : Nat} {own : Nat → Nat} {ab : Nat → Bool} (hc : c.size = n) (hl : ∀ o, o < n → c[o]? = some (.int .i64 (lastAt own ab k o))) (ha : ab k = true) :
    ∀ o, o < n → (c.setIfInBounds (own k) (.int .i64 k))[o]? = some (.int .i64 (lastAt own ab (k + 1) o)) := by
  intro o ho
  rw [Array.getElem?_setIfInBounds]
  by_cases e : own k = o
  · subst e; simp [lastAt, ha, hc, ho]
  · rw [if_neg e, hl o ho]; simp [lastAt, e]

theorem last_keep {c : Array Value} {n k : Nat} {own : Nat → Nat} {ab : Nat → Bool} (hl : ∀ o, o < n → c[o]? = some (.int .i64 (lastAt own ab k o))) (ha : ab k = false) :
    ∀ o, o < n → c[o]? = some (.int .i64 (lastAt own ab (k + 1) o)) := by
  intro o ho
  rw [hl o ho]; simp [lastAt, ha]

set_option maxHeartbeats 4000000 in
set_option maxRecDepth 100000 in
theorem phaseB (C : Code) (w : World) (ad : Addr) (A1 A2 A3 : Option Addr) (n c0 m c1 c2 c3 : Nat) (AA : Nat → Option Addr) (L CC : Nat → Nat) (zs : Nat → List Int) (ow : Nat → Int) (ab : Nat → Bool)
    (hn : n ≤ 4096) (hm : m ≤ 4096) (hL : ∀ r, r < n → L r ≤ 131072)
    (hc : Cells w (some ad) n (fun r => .slice (AA r) (L r) (CC r))) (hin : ∀ r, r < n → RowIn w (AA r) (L r) (CC r) (zs r))
    (hc2 : Cells w A2 m (fun i => .int .i64 (ow i))) (hc3 : Cells w A3 m (fun i => .bool (ab i))) (how : ∀ i, i < m → 0 ≤ ow i ∧ ow i < n)
    {u4 u5 u6 u7 u8 u9 u10 u11 u12 u13 u14 u15 u16 u17 u18 u19 u20 u21 u22 u23 u24 u25 u26 u27 u28 u29 u30 u31 u32 u33 u34 u35 u36 u37 u38 u39 u40 u41 u42 u43 u44 u45 u46 u47 u48 u49 u50 u51 u52 u53 u54 u55 u56 u57 u58 u59 u60 u61 u62 u63 u64 u65 u66 u67 u68 u69 u70 u71 u72 u73 u74 u75 u76 u77 u78 u79 u80 u81 u82 u83 u84 u85 u86 u87 u88 u89 u90 u91 u92 u93 u94 u95 u96 u97 u98 u99 u100 u101 u102 u103 u104 u105 u106 u107 u108 u109 u110 u111 u112 u113 u114 u115 u116 u117 u118 u119 u120 u121 u122 u123 u124 u125 u126 u127 u128 u129 u130 u131 u132 u133 u134 u135 u136 u137 u138 u139 u140 u141 u142 u143 u144 u145 u146 u147 u148 u149 u150 u151 u152 u153 u154 u155 u156 u157 u158 u159 u160 u161 u162 u163 u164 u165 u166 u167 u168 u169 u170 u171 u172 u173 u174 u175 u176 u177 u178 u179 u180 u181 u182 u183 u184 u185 u186 u187 u188 u189 u190 u191 u192 u193 u194 u195 u196 u197 u198 u199 u200 u201 u202 u203 u204 u205 u206 u207 u208 u209 u210 u211 u212 u213 u214 u215 u216 u217 u218 u219 u220 u221 u222 u223 u224 u225 u226 u227 u228 u229 u230 u231 u232 u233 u234 u235 u236 u237 u238 u239 u240 u241 u242 u243 u244 u245 u246 u247 u248 u249 u250 u251 u252 u253 u254 u255 u256 u257 u258 u259 u260 u261 u262 u263 u264 u265 u266 u267 u268 u269 u270 u271 u272 u273 u274 u275 u276 u277 u278 u279 u280 u281 u282 u283 u284 u285 u286 u287 u288 u289 u290 u291 u292 u293 u294 u295 u296 u297 u298 u299 u300 u301 u302 u303 u304 u305 : Value}
    (hC : ∀ (w5 : World) (gW hi : Nat) (vsB vs : Nat → Value) {u4 u5 u6 u7 u8 u9 u10 u11 u14 u15 u17 u18 u19 u20 u21 u22 u23 u24 u25 u26 u27 u28 u29 u30 u31 u32 u33 u34 u35 u36 u37 u38 u39 u40 u41 u42 u43 u44 u45 u46 u47 u48 u49 u50 u51 u52 u53 u54 u55 u56 u57 u58 u59 u60 u61 u62 u63 u64 u65 u66 u67 u68 u69 u70 u71 u72 u73 u74 u75 u76 u77 u78 u79 u80 u81 u82 u83 u84 u85 u86 u87 u88 u89 u90 u91 u92 u93 u94 u95 u96 u97 u98 u99 u100 u101 u102 u103 u104 u105 u106 u107 u108 u109 u110 u111 u112 u113 u114 u115 u116 u117 u118 u119 u120 u121 u122 u123 u124 u125 u126 u127 u128 u129 u130 u131 u132 u133 u134 u135 u136 u137 u138 u139 u140 u141 u142 u143 u144 u145 u146 u147 u148 u149 u150 u151 u152 u153 u154 u155 u156 u157 u158 u159 u160 u161 u162 u163 u164 u165 u166 u167 u168 u169 u170 u171 u172 u173 u174 u175 u176 u177 u178 u179 u180 u181 u182 u183 u184 u185 u186 u187 u188 u189 u190 u191 u192 u193 u194 u195 u196 u197 u198 u199 u200 u201 u202 u203 u204 u205 u206 u207 u208 u209 u210 u211 u212 u213 u214 u215 u216 u217 u218 u219 u220 u221 u222 u223 u224 u225 u226 u227 u228 u229 u230 u231 u232 u233 u234 u235 u236 u237 u238 u239 u240 u241 u242 u243 u244 u245 u246 u247 u248 u249 u250 u251 u252 u253 u254 u255 u256 u257 u258 u259 u260 u261 u262 u263 u264 u265 u266 u267 u268 u269 u270 u271 u272 u273 u274 u275 u276 u277 u278 u279 u280 u281 u282 u283 u284 u285 u286 u287 u288 u289 u290 u291 u292 u293 u294 u295 u296 u297 u298 u299 u300 u301 u302 u303 u304 u305 : Value}, Begun w w5 gW hi n m vsB vs zs (fun i => (ow i).toNat) ab →
      Code.wp Try.prog C (bodyPost Try.prog Try.f5 fun e w' => e = .returned (.bool true) ∧ Below w.heap.size w w') ⟨#[.slice (some ⟨gW, 0, none⟩) n n, .slice A1 m c1, .slice A2 m c2, .slice A3 m c3, u4, u5, u6, u7, u8, u9, u10, u11, .slice (some ⟨w.heap.size, 0, none⟩) n n, .slice (some ⟨hi, 0, none⟩) n n, u14, u15, .pointer (some ⟨hi + 2, 0, none⟩), u17, u18, u19, u20, u21, u22, u23, u24, u25, u26, u27, u28, u29, u30, u31, u32, u33, u34, u35, u36, u37, u38, u39, u40, u41, u42, u43, u44, u45, u46, u47, u48, u49, u50, u51, u52, u53, u54, u55, u56, u57, u58, u59, u60, u61, u62, u63, u64, u65, u66, u67, u68, u69, u70, u71, u72, u73, u74, u75, u76, u77, u78, u79, u80, u81, u82, u83, u84, u85, u86, u87, u88, u89, u90, u91, u92, u93, u94, u95, u96, u97, u98, u99, u100, u101, u102, u103, u104, u105, u106, u107, u108, u109, u110, u111, u112, u113, u114, u115, u116, u117, u118, u119, u120, u121, u122, u123, u124, u125, u126, u127, u128, u129, u130, u131, u132, u133, u134, u135, u136, u137, u138, u139, u140, u141, u142, u143, u144, u145, u146, u147, u148, u149, u150, u151, u152, u153, u154, u155, u156, u157, u158, u159, u160, u161, u162, u163, u164, u165, u166, u167, u168, u169, u170, u171, u172, u173, u174, u175, u176, u177, u178, u179, u180, u181, u182, u183, u184, u185, u186, u187, u188, u189, u190, u191, u192, u193, u194, u195, u196, u197, u198, u199, u200, u201, u202, u203, u204, u205, u206, u207, u208, u209, u210, u211, u212, u213, u214, u215, u216, u217, u218, u219, u220, u221, u222, u223, u224, u225, u226, u227, u228, u229, u230, u231, u232, u233, u234, u235, u236, u237, u238, u239, u240, u241, u242, u243, u244, u245, u246, u247, u248, u249, u250, u251, u252, u253, u254, u255, u256, u257, u258, u259, u260, u261, u262, u263, u264, u265, u266, u267, u268, u269, u270, u271, u272, u273, u274, u275, u276, u277, u278, u279, u280, u281, u282, u283, u284, u285, u286, u287, u288, u289, u290, u291, u292, u293, u294, u295, u296, u297, u298, u299, u300, u301, u302, u303, u304, u305], []⟩ w5) :
    Code.wp Try.prog (cutAt 6 (dropAt 7 (Try.f5.body.getD .skip)) C) (bodyPost Try.prog Try.f5 fun e w' => e = .returned (.bool true) ∧ Below w.heap.size w w') ⟨#[.slice (some ad) n c0, .slice A1 m c1, .slice A2 m c2, .slice A3 m c3, u4, u5, u6, u7, u8, u9, u10, u11, u12, u13, u14, u15, u16, u17, u18, u19, u20, u21, u22, u23, u24, u25, u26, u27, u28, u29, u30, u31, u32, u33, u34, u35, u36, u37, u38, u39, u40, u41, u42, u43, u44, u45, u46, u47, u48, u49, u50, u51, u52, u53, u54, u55, u56, u57, u58, u59, u60, u61, u62, u63, u64, u65, u66, u67, u68, u69, u70, u71, u72, u73, u74, u75, u76, u77, u78, u79, u80, u81, u82, u83, u84, u85, u86, u87, u88, u89, u90, u91, u92, u93, u94, u95, u96, u97, u98, u99, u100, u101, u102, u103, u104, u105, u106, u107, u108, u109, u110, u111, u112, u113, u114, u115, u116, u117, u118, u119, u120, u121, u122, u123, u124, u125, u126, u127, u128, u129, u130, u131, u132, u133, u134, u135, u136, u137, u138, u139, u140, u141, u142, u143, u144, u145, u146, u147, u148, u149, u150, u151, u152, u153, u154, u155, u156, u157, u158, u159, u160, u161, u162, u163, u164, u165, u166, u167, u168, u169, u170, u171, u172, u173, u174, u175, u176, u177, u178, u179, u180, u181, u182, u183, u184, u185, u186, u187, u188, u189, u190, u191, u192, u193, u194, u195, u196, u197, u198, u199, u200, u201, u202, u203, u204, u205, u206, u207, u208, u209, u210, u211, u212, u213, u214, u215, u216, u217, u218, u219, u220, u221, u222, u223, u224, u225, u226, u227, u228, u229, u230, u231, u232, u233, u234, u235, u236, u237, u238, u239, u240, u241, u242, u243, u244, u245, u246, u247, u248, u249, u250, u251, u252, u253, u254, u255, u256, u257, u258, u259, u260, u261, u262, u263, u264, u265, u266, u267, u268, u269, u270, u271, u272, u273, u274, u275, u276, u277, u278, u279, u280, u281, u282, u283, u284, u285, u286, u287, u288, u289, u290, u291, u292, u293, u294, u295, u296, u297, u298, u299, u300, u301, u302, u303, u304, u305], []⟩ w := by
  conv => arg 2; simp only [Try.f5, Option.getD_some, cutAt, dropAt]
  have hmk3 := run_make_row' (P := Try.prog) 25 3 (.int .i64 0) 8 Try.underlying25 info3 rfl .i64 .i64 n (by omega) (by omega)
  have hmk25 := run_make_row' (P := Try.prog) 32 25 (.slice none 0 0) 24 Try.underlying32 info25 rfl .i64 .i64 n (by omega) (by omega)
  have HC : Hid _ := @hC
  clear hC
  have H0 : Hid (Cells w (some ad) n (fun r => .slice (AA r) (L r) (CC r))) := hc
  have H1 : Hid (∀ r, r < n → RowIn w (AA r) (L r) (CC r) (zs r)) := hin
  have H2 : Hid (Cells w A2 m (fun i => .int .i64 (ow i))) := hc2
  have H3 : Hid (Cells w A3 m (fun i => .bool (ab i))) := hc3
  have H4 : Hid (∀ r, r < n → L r ≤ 131072) := hL
  have H5 : Hid (∀ i, i < m → 0 ≤ ow i ∧ ow i < n) := how
  clear hc hin hc2 hc3 hL how
  go_wp2_with fail
  refine (clone2_some ad n c0 AA L CC zs w (by omega) (fun r hr => by have := H4.out r hr; omega) H0.out H1.out).mono ?_
  rintro e w1 ⟨vsB, rfl, hjB, hb1⟩
  dsimp only
  have J1 : Hid (Jag w1 (w.heap.size + 1) w.heap.size n n vsB zs) := hjB
  have J2 : Hid (Below w.heap.size w w1) := hb1
  clear hjB hb1
  go_wp2_with fail
  refine (clone2_some ad n c0 AA L CC zs w1 (by omega) (fun r hr => by have := H4.out r hr; omega) (H0.out.below J2.out (Nat.le_refl _)) (fun r hr => (H1.out r hr).below J2.out (Nat.le_refl _))).mono ?_
  rintro e w2 ⟨vs, rfl, hjW, hb2⟩
  dsimp only
  have J3 : Hid (Jag w2 (w1.heap.size + 1) w1.heap.size n n vs zs) := hjW
  have J4 : Hid (Below w1.heap.size w1 w2) := hb2
  have s12 : w1.heap.size < w2.heap.size := hjW.outer.lt
  have s01 : w.heap.size < w1.heap.size := J1.out.outer.lt
  have J5 : Hid (Below w.heap.size w w2) := J2.out.trans (hb2.mono (by omega))
  have K2 : Hid (Cells w2 A2 m (fun i => .int .i64 (ow i))) := H2.out.below J5.out (Nat.le_refl _)
  have K3 : Hid (Cells w2 A3 m (fun i => .bool (ab i))) := H3.out.below J5.out (Nat.le_refl _)
  clear hjW hb2 H0 H1 H2 H3 H4
  go_wp2
  go_loopw [14] (fun i wr => ∃ (k : Nat) (c : Array Value), k ≤ n ∧ i = .int .i64 k ∧ wr = w2.alloc (.cells c 3) ∧ c.size = n ∧ Hid (∀ j, j < k → c[j]? = some (.int .i64 (-1)))) (fun i _ => n - (intOf i).toNat)
  case atStart => exact ⟨0, _, Nat.zero_le _, rfl, rfl, size_madeCells _ _, fun j hj => absurd hj (Nat.not_lt_zero _)⟩
  case round =>
    obtain ⟨k, c, hk, rfl, rfl, hsz, HC2⟩ := hrel
    by_cases hlt : k < n
    · have hsk : k < c.size := by omega
      clear HC
      go_wp2
      go_roundw
      case rel => exact ⟨k + 1, _, by omega, by go_num, rfl, by simpa using hsz, fill_step (f := fun j => .int .i64 (-1)) rfl hsk HC2.out⟩
      case measure => simp [intOf]; omega
    · obtain rfl : k = n := by omega
      go_wp2
      go_loopw [15] (fun i wr => ∃ (j : Nat) (c : Array Value), j ≤ m ∧ i = .int .i64 j ∧ wr = w2.alloc (.cells c 3) ∧ c.size = k ∧ Hid (∀ o, o < k → c[o]? = some (.int .i64 (lastAt (fun i => (ow i).toNat) ab j o)))) (fun i _ => m - (intOf i).toNat)
      case atStart => exact ⟨0, _, Nat.zero_le _, rfl, rfl, hsz, HC2.out⟩
      case round =>
        obtain ⟨j, c', hj, rfl, rfl, hsz', HL⟩ := hrel
        by_cases hlt : j < m
        · obtain ⟨b3, o3, rfl, hb3, hcc3⟩ := K3.out.lit (by omega)
          obtain ⟨b2, o2, rfl, hb2, hcc2⟩ := K2.out.lit (by omega)
          have k3 : ∀ o, (w2.alloc o).cell? ⟨b3, o3 + j, none⟩ = some (.bool (ab j)) := fun o => by rw [World.cell?_alloc_lt]; exact hcc3 j hlt; exact hb3
          have k2 : ∀ o, (w2.alloc o).cell? ⟨b2, o2 + j, none⟩ = some (.int .i64 (ow j)) := fun o => by rw [World.cell?_alloc_lt]; exact hcc2 j hlt; exact hb2
          have k5 := H5.out j hlt
          have hsk : (ow j).toNat < c'.size := by omega
          obtain ⟨z, hz⟩ : ∃ z, ow j = z := ⟨_, rfl⟩
          rw [hz] at k2 k5 hsk
          have HZ : Hid (ow j = z) := hz
          clear HC hcc3 hcc2 K2 K3 H5 hz
          cases ha : ab j with
          | true =>
            rw [ha] at k3
            have HA : Hid (ab j = true) := ha
            clear ha
            go_wp2
            go_roundw
            case rel => exact ⟨j + 1, _, by omega, by go_num, rfl, by simpa using hsz', by have h := last_step hsz' HL.out HA.out; simp only [HZ.out] at h; exact h⟩
            case measure => simp [intOf]; omega
          | false =>
            rw [ha] at k3
            have HA : Hid (ab j = false) := ha
            clear ha
            go_wp2
            go_roundw
            case rel => exact ⟨j + 1, _, by omega, by go_num, rfl, hsz', last_keep HL.out HA.out⟩
            case measure => simp [intOf]; omega
        · obtain rfl : j = m := by omega
          go_wp2_with fail
          refine (new14 _ _ _ _ _ _ _).mono ?_
          rintro e w5 ⟨rfl, hw5⟩
          dsimp only
          have R := begun_mk (m := j) J1.out J2.out J3.out J4.out hsz' HL.out (w5 := w5) (by rw [hw5])
          simp only [nblk_alloc]
          have HR : Hid (Begun w w5 w1.heap.size w2.heap.size k j vsB vs zs (fun i => (ow i).toNat) ab) := R
          clear R hw5
          go_wp2
          exact HC.out w5 w1.heap.size w2.heap.size vsB vs HR.out
end Go.Proofs.Qxb6616109a
