import Derived.Test.Qxb6616109aPhC
namespace Go.Proofs.Qxb6616109a
open Go.RowKit Go.Deep Go.Joins
set_option linter.unusedVariables false

/-- What is read when the script is through: 'before' in block gB, what came of the waiters in block gW, 'last' in block hi. -/
structure Ends (w w6 : World) (gB gW hi n : Nat) (Ab Ag : Nat → Option Addr) (Cb Cg Lz Lf : Nat → Nat) (Zf Ff : Nat → Nat → Int) (la : Nat → Int) : Prop where
  below : Below w.heap.size w w6
  size : w.heap.size ≤ w6.heap.size
  befr : ∀ r, r < n → w6.cell? ⟨gB, r, none⟩ = some (.slice (Ab r) (Lz r) (Cb r))
  befc : ∀ r, r < n → Cells w6 (Ab r) (Lz r) (fun i => .int .i64 (Zf r i))
  gotr : ∀ r, r < n → w6.cell? ⟨gW, r, none⟩ = some (.slice (Ag r) (Lf r) (Cg r))
  gotc : ∀ r, r < n → Cells w6 (Ag r) (Lf r) (fun i => .int .i64 (Ff r i))
  last : ∀ r, r < n → w6.cell? ⟨hi, r, none⟩ = some (.int .i64 (la r))

theorem cell_kept {w w' : World} {B : Nat} {a : Addr} {v : Value} (h : w.cell? a = some v) (hb : Below B w w') (hB : w.heap.size ≤ B) : w'.cell? a = some v :=
  (hb.cell (by have := World.block_lt_of_cell? w _ h; omega)).trans h

theorem Ends.later {w w6 wr : World} {gB gW hi n : Nat} {Ab Ag : Nat → Option Addr} {Cb Cg Lz Lf : Nat → Nat} {Zf Ff : Nat → Nat → Int} {la : Nat → Int} (h : Ends w w6 gB gW hi n Ab Ag Cb Cg Lz Lf Zf Ff la) (hb : Below w6.heap.size w6 wr) : Ends w wr gB gW hi n Ab Ag Cb Cg Lz Lf Zf Ff la :=
  ⟨h.below.trans (hb.mono h.size), Nat.le_trans h.size hb.size, fun r hr => cell_kept (h.befr r hr) hb (Nat.le_refl _), fun r hr => (h.befc r hr).below hb (Nat.le_refl _), fun r hr => cell_kept (h.gotr r hr) hb (Nat.le_refl _), fun r hr => (h.gotc r hr).below hb (Nat.le_refl _), fun r hr => cell_kept (h.last r hr) hb (Nat.le_refl _)⟩

theorem ends_mk {w w5 w6 : World} {gW hi n m : Nat} {vsB vs vs' : Nat → Value} {zs F : Nat → List Int} {own : Nat → Nat} {ab : Nat → Bool} (hB : Begun w w5 gW hi n m vsB vs zs own ab) (hs : Same (gW + 1) hi (hi + 3) gW (hi + 1) w5 w6) (ht : Ts w6 (gW + 1) hi (hi + 3) (hi + 2) gW (hi + 1) n vs' F) :
    ∃ Ab Ag Cb Cg, Ends w w6 w.heap.size gW hi n Ab Ag Cb Cg (fun r => (zs r).length) (fun r => (F r).length) (fun r i => (zs r).getD i 0) (fun r i => (F r).getD i 0) (lastAt own ab m) := by
  have hbl := same_below hB hs
  have h1 := hB.bgW
  have h2 := hB.lie.h2
  have keep : ∀ b, b < gW → w6.heap[b]? = w5.heap[b]? := fun b hb => hs.block b (by omega) (by omega) (by omega) (by omega)
  have hbr : ∀ r, r < n → ∃ y : Option Addr × Nat, vsB r = .slice y.1 (zs r).length y.2 ∧ Cells w6 y.1 (zs r).length (fun i => .int .i64 ((zs r).getD i 0)) := by
    intro r hr
    have hrow : w6.ownsRow (w.heap.size + 1) 3 1 (vsB r) (zs r).length ((zs r).map (Value.int .i64)) := by
      refine ⟨(hB.bef.row r hr).1, ?_⟩
      rcases (hB.bef.row r hr).2 with h0 | ⟨g', cap, cur, hv', hb', hg', r'⟩
      · exact Or.inl h0
      · exact Or.inr ⟨g', cap, cur, hv', hb', by rw [keep g' (hB.befs r g' hr (by rw [hv']; rfl))]; exact hg', r'⟩
    obtain ⟨A, c, hv, hcs⟩ := own_cells hrow
    exact ⟨(A, c), hv, hcs⟩
  have hgr : ∀ r, r < n → ∃ y : Option Addr × Nat, vs' r = .slice y.1 (F r).length y.2 ∧ Cells w6 y.1 (F r).length (fun i => .int .i64 ((F r).getD i 0)) := by
    intro r hr
    obtain ⟨A, c, hv, hcs⟩ := own_cells (ht.jag.row r hr)
    exact ⟨(A, c), hv, hcs⟩
  obtain ⟨fb, hfb⟩ := choose_lt hbr
  obtain ⟨fg, hfg⟩ := choose_lt hgr
  refine ⟨fun r => (fb r).1, fun r => (fg r).1, fun r => (fb r).2, fun r => (fg r).2, ⟨hbl, hbl.size, ?_, ?_, ?_, ?_, ?_⟩⟩
  · intro r hr
    rw [World.cell?_of_block (w := w5) (keep _ (by exact h1)), hB.bef.rowAt hr, (hfb r hr).1]
  · intro r hr; exact (hfb r hr).2
  · intro r hr
    rw [ht.jag.rowAt hr, (hfg r hr).1]
  · intro r hr; exact (hfg r hr).2
  · intro r hr
    rw [World.cell?_of_block (w := w5) (hs.block hi (by omega) (by omega) (by omega) (by omega))]
    exact hB.last.cell hr

/-- 'pos' lies in the last block; below it the world is as it was. -/
structure PosIs (w6 wr : World) (n : Nat) (P : Nat → Int) : Prop where
  row : wr.rowIs w6.heap.size 3 n (fun o => .int .i64 (P o))
  below : Below w6.heap.size w6 wr

theorem PosIs.drewN {w6 wr : World} {n : Nat} {P : Nat → Int} (h : PosIs w6 wr n P) (d : Nat) : PosIs w6 (wr.drewN d) n P := ⟨h.row, below_drewN h.below d⟩

theorem PosIs.set {w6 wr : World} {n : Nat} {P Q : Nat → Int} {k : Nat} {z : Int} (h : PosIs w6 wr n P) (hQ : ∀ o, o < n → Q o = if o = k then z else P o) : PosIs w6 (wr.setCell ⟨w6.heap.size, k, none⟩ (.int .i64 z)) n Q :=
  ⟨(h.row.set k _).congr fun i hi => by rw [hQ i hi]; split <;> rfl, h.below.setCell (Nat.le_refl _) _⟩

theorem PosIs.congr {w6 wr : World} {n : Nat} {P Q : Nat → Int} (h : PosIs w6 wr n P) (hQ : ∀ o, o < n → P o = Q o) : PosIs w6 wr n Q :=
  ⟨h.row.congr fun i hi => by rw [hQ i hi], h.below⟩

def posTo (P0 : Nat → Int) (k : Nat) : Nat → Int := fun o => if o < k then P0 o else 0

set_option maxHeartbeats 4000000 in
set_option maxRecDepth 100000 in
theorem phaseD (C : Code) (w w6 : World) (gW hi : Nat) (A1 A2 A3 : Option Addr) (n m c1 c2 c3 : Nat) (Ab Ag : Nat → Option Addr) (Cb Cg Lz Lf : Nat → Nat) (Zf Ff : Nat → Nat → Int) (la P0 : Nat → Int)
    (hn : n ≤ 4096) (hz : ∀ r, r < n → Lz r ≤ 1048576 ∧ Lf r ≤ 1048576) (hE : Ends w w6 w.heap.size gW hi n Ab Ag Cb Cg Lz Lf Zf Ff la)
    (c5 : w6.cell? ⟨hi + 2, 5, none⟩ = some (.slice (some ⟨gW, 0, none⟩) n n))
    (hpre : ∀ r, r < n → la r < 0 → P0 r = Lz r ∧ Lz r ≤ Lf r ∧ ∀ i, i < Lz r → Ff r i = Zf r i) (hpos : ∀ r, r < n → ¬ la r < 0 → P0 r = 0)
    {u4 u5 u6 u7 u8 u9 u10 u11 u14 u15 u17 u18 u19 u20 u21 u22 u23 u24 u25 u26 u27 u28 u29 u30 u31 u32 u33 u34 u35 u36 u37 u38 u39 u40 u41 u42 u43 u44 u45 u46 u47 u48 u49 u50 u51 u52 u53 u54 u55 u56 u57 u58 u59 u60 u61 u62 u63 u64 u65 u66 u67 u68 u69 u70 u71 u72 u73 u74 u75 u76 u77 u78 u79 u80 u81 u82 u83 u84 u85 u86 u87 u88 u89 u90 u91 u92 u93 u94 u95 u96 u97 u98 u99 u100 u101 u102 u103 u104 u105 u106 u107 u108 u109 u110 u111 u112 u113 u114 u115 u116 u117 u118 u119 u120 u121 u122 u123 u124 u125 u126 u127 u128 u129 u130 u131 u132 u133 u134 u135 u136 u137 u138 u139 u140 u141 u142 u143 u144 u145 u146 u147 u148 u149 u150 u151 u152 u153 u154 u155 u156 u157 u158 u159 u160 u161 u162 u163 u164 u165 u166 u167 u168 u169 u170 u171 u172 u173 u174 u175 u176 u177 u178 u179 u180 u181 u182 u183 u184 u185 u186 u187 u188 u189 u190 u191 u192 u193 u194 u195 u196 u197 u198 u199 u200 u201 u202 u203 u204 u205 u206 u207 u208 u209 u210 u211 u212 u213 u214 u215 u216 u217 u218 u219 u220 u221 u222 u223 u224 u225 u226 u227 u228 u229 u230 u231 u232 u233 u234 u235 u236 u237 u238 u239 u240 u241 u242 u243 u244 u245 u246 u247 u248 u249 u250 u251 u252 u253 u254 u255 u256 u257 u258 u259 u260 u261 u262 u263 u264 u265 u266 u267 u268 u269 u270 u271 u272 u273 u274 u275 u276 u277 u278 u279 u280 u281 u282 u283 u284 u285 u286 u287 u288 u289 u290 u291 u292 u293 u294 u295 u296 u297 u298 u299 u300 u301 u302 u303 u304 u305 : Value}
    (hC : ∀ (w7 : World) {u0 u4 u5 u6 u7 u8 u9 u10 u11 u14 u15 u16 u17 u20 u21 u22 u23 u24 u25 u26 u27 u28 u29 u30 u31 u32 u33 u34 u35 u36 u37 u38 u39 u40 u41 u42 u43 u44 u45 u46 u47 u48 u49 u50 u51 u52 u53 u54 u55 u56 u57 u58 u59 u60 u61 u62 u63 u64 u65 u66 u67 u68 u69 u70 u71 u72 u73 u74 u75 u76 u77 u78 u79 u80 u81 u82 u83 u84 u85 u86 u87 u88 u89 u90 u91 u92 u93 u94 u95 u96 u97 u98 u99 u100 u101 u102 u103 u104 u105 u106 u107 u108 u109 u110 u111 u112 u113 u114 u115 u116 u117 u118 u119 u120 u121 u122 u123 u124 u125 u126 u127 u128 u129 u130 u131 u132 u133 u134 u135 u136 u137 u138 u139 u140 u141 u142 u143 u144 u145 u146 u147 u148 u149 u150 u151 u152 u153 u154 u155 u156 u157 u158 u159 u160 u161 u162 u163 u164 u165 u166 u167 u168 u169 u170 u171 u172 u173 u174 u175 u176 u177 u178 u179 u180 u181 u182 u183 u184 u185 u186 u187 u188 u189 u190 u191 u192 u193 u194 u195 u196 u197 u198 u199 u200 u201 u202 u203 u204 u205 u206 u207 u208 u209 u210 u211 u212 u213 u214 u215 u216 u217 u218 u219 u220 u221 u222 u223 u224 u225 u226 u227 u228 u229 u230 u231 u232 u233 u234 u235 u236 u237 u238 u239 u240 u241 u242 u243 u244 u245 u246 u247 u248 u249 u250 u251 u252 u253 u254 u255 u256 u257 u258 u259 u260 u261 u262 u263 u264 u265 u266 u267 u268 u269 u270 u271 u272 u273 u274 u275 u276 u277 u278 u279 u280 u281 u282 u283 u284 u285 u286 u287 u288 u289 u290 u291 u292 u293 u294 u295 u296 u297 u298 u299 u300 u301 u302 u303 u304 u305 : Value}, PosIs w6 w7 n P0 →
      Code.wp Try.prog C (bodyPost Try.prog Try.f5 fun e w' => e = .returned (.bool true) ∧ Below w.heap.size w w') ⟨#[u0, .slice A1 m c1, .slice A2 m c2, .slice A3 m c3, u4, u5, u6, u7, u8, u9, u10, u11, .slice (some ⟨w.heap.size, 0, none⟩) n n, .slice (some ⟨hi, 0, none⟩) n n, u14, u15, u16, u17, .slice (some ⟨gW, 0, none⟩) n n, .slice (some ⟨w6.heap.size, 0, none⟩) n n, u20, u21, u22, u23, u24, u25, u26, u27, u28, u29, u30, u31, u32, u33, u34, u35, u36, u37, u38, u39, u40, u41, u42, u43, u44, u45, u46, u47, u48, u49, u50, u51, u52, u53, u54, u55, u56, u57, u58, u59, u60, u61, u62, u63, u64, u65, u66, u67, u68, u69, u70, u71, u72, u73, u74, u75, u76, u77, u78, u79, u80, u81, u82, u83, u84, u85, u86, u87, u88, u89, u90, u91, u92, u93, u94, u95, u96, u97, u98, u99, u100, u101, u102, u103, u104, u105, u106, u107, u108, u109, u110, u111, u112, u113, u114, u115, u116, u117, u118, u119, u120, u121, u122, u123, u124, u125, u126, u127, u128, u129, u130, u131, u132, u133, u134, u135, u136, u137, u138, u139, u140, u141, u142, u143, u144, u145, u146, u147, u148, u149, u150, u151, u152, u153, u154, u155, u156, u157, u158, u159, u160, u161, u162, u163, u164, u165, u166, u167, u168, u169, u170, u171, u172, u173, u174, u175, u176, u177, u178, u179, u180, u181, u182, u183, u184, u185, u186, u187, u188, u189, u190, u191, u192, u193, u194, u195, u196, u197, u198, u199, u200, u201, u202, u203, u204, u205, u206, u207, u208, u209, u210, u211, u212, u213, u214, u215, u216, u217, u218, u219, u220, u221, u222, u223, u224, u225, u226, u227, u228, u229, u230, u231, u232, u233, u234, u235, u236, u237, u238, u239, u240, u241, u242, u243, u244, u245, u246, u247, u248, u249, u250, u251, u252, u253, u254, u255, u256, u257, u258, u259, u260, u261, u262, u263, u264, u265, u266, u267, u268, u269, u270, u271, u272, u273, u274, u275, u276, u277, u278, u279, u280, u281, u282, u283, u284, u285, u286, u287, u288, u289, u290, u291, u292, u293, u294, u295, u296, u297, u298, u299, u300, u301, u302, u303, u304, u305], []⟩ w7) :
    Code.wp Try.prog (cutAt 4 (dropAt 14 (Try.f5.body.getD .skip)) C) (bodyPost Try.prog Try.f5 fun e w' => e = .returned (.bool true) ∧ Below w.heap.size w w') ⟨#[.slice (some ⟨gW, 0, none⟩) n n, .slice A1 m c1, .slice A2 m c2, .slice A3 m c3, u4, u5, u6, u7, u8, u9, u10, u11, .slice (some ⟨w.heap.size, 0, none⟩) n n, .slice (some ⟨hi, 0, none⟩) n n, u14, u15, .pointer (some ⟨hi + 2, 0, none⟩), u17, u18, u19, u20, u21, u22, u23, u24, u25, u26, u27, u28, u29, u30, u31, u32, u33, u34, u35, u36, u37, u38, u39, u40, u41, u42, u43, u44, u45, u46, u47, u48, u49, u50, u51, u52, u53, u54, u55, u56, u57, u58, u59, u60, u61, u62, u63, u64, u65, u66, u67, u68, u69, u70, u71, u72, u73, u74, u75, u76, u77, u78, u79, u80, u81, u82, u83, u84, u85, u86, u87, u88, u89, u90, u91, u92, u93, u94, u95, u96, u97, u98, u99, u100, u101, u102, u103, u104, u105, u106, u107, u108, u109, u110, u111, u112, u113, u114, u115, u116, u117, u118, u119, u120, u121, u122, u123, u124, u125, u126, u127, u128, u129, u130, u131, u132, u133, u134, u135, u136, u137, u138, u139, u140, u141, u142, u143, u144, u145, u146, u147, u148, u149, u150, u151, u152, u153, u154, u155, u156, u157, u158, u159, u160, u161, u162, u163, u164, u165, u166, u167, u168, u169, u170, u171, u172, u173, u174, u175, u176, u177, u178, u179, u180, u181, u182, u183, u184, u185, u186, u187, u188, u189, u190, u191, u192, u193, u194, u195, u196, u197, u198, u199, u200, u201, u202, u203, u204, u205, u206, u207, u208, u209, u210, u211, u212, u213, u214, u215, u216, u217, u218, u219, u220, u221, u222, u223, u224, u225, u226, u227, u228, u229, u230, u231, u232, u233, u234, u235, u236, u237, u238, u239, u240, u241, u242, u243, u244, u245, u246, u247, u248, u249, u250, u251, u252, u253, u254, u255, u256, u257, u258, u259, u260, u261, u262, u263, u264, u265, u266, u267, u268, u269, u270, u271, u272, u273, u274, u275, u276, u277, u278, u279, u280, u281, u282, u283, u284, u285, u286, u287, u288, u289, u290, u291, u292, u293, u294, u295, u296, u297, u298, u299, u300, u301, u302, u303, u304, u305], []⟩ w6 := by
  conv => arg 2; simp only [Try.f5, Option.getD_some, cutAt, dropAt]
  have hmk3 := run_make_row' (P := Try.prog) 25 3 (.int .i64 0) 8 Try.underlying25 info3 rfl .i64 .i64 n (by omega) (by omega)
  have HC : Hid _ := @hC
  have HE : Hid (Ends w w6 w.heap.size gW hi n Ab Ag Cb Cg Lz Lf Zf Ff la) := hE
  have HZ : Hid (∀ r, r < n → Lz r ≤ 1048576 ∧ Lf r ≤ 1048576) := hz
  have H1 : Hid (∀ r, r < n → la r < 0 → P0 r = Lz r ∧ Lz r ≤ Lf r ∧ ∀ i, i < Lz r → Ff r i = Zf r i) := hpre
  have H2 : Hid (∀ r, r < n → ¬ la r < 0 → P0 r = 0) := hpos
  clear hC hE hz hpre hpos
  go_wp2_with fail
  refine (waiters17 (hi + 2) gW n w6 c5).mono ?_
  rintro e w' ⟨rfl, hw⟩
  have hw := hw.symm
  subst hw
  dsimp only
  clear c5
  go_wp2
  clear hmk3
  go_loopw [20] (fun i wr => ∃ (k : Nat), k ≤ n ∧ i = .int .i64 k ∧ PosIs w6 wr n (posTo P0 k)) (fun i _ => n - (intOf i).toNat)
  case atStart => exact ⟨0, Nat.zero_le _, rfl, ⟨(World.rowIs_made w6 (.int .i64 0) n 3).congr fun i hi => by simp [posTo], (Below.refl _ _).alloc (Nat.le_refl _) _⟩⟩
  case round =>
    obtain ⟨k, hk, rfl, hP⟩ := hrel
    have HP : Hid (PosIs w6 wr n (posTo P0 k)) := hP
    clear hP
    by_cases hlt : k < n
    · have hL := HE.out.later HP.out.below
      have kl := hL.last k hlt
      by_cases hla : la k < 0
      · obtain ⟨e0, hle, heq⟩ := H1.out k hlt hla
        have kz := HZ.out k hlt
        have E0 : Hid (P0 k = Lz k) := e0
        have E1 : Hid (∀ i, i < Lz k → Ff k i = Zf k i) := heq
        have kb := hL.befr k hlt
        have kg := hL.gotr k hlt
        clear HC hL e0 heq
        go_wp2
        go_quiet (fail)
        go_wp2
        clear kb kg kl
        obtain ⟨wo, hwo⟩ : ∃ wo : World, wo = wr := ⟨_, rfl⟩
        have HP2 : Hid (PosIs w6 (wr.drewN nq) n (posTo P0 k)) := HP.out.drewN nq
        clear HP hwo
        go_loopw [21] (fun i wr2 => ∃ (j : Nat), j ≤ Lz k ∧ i = .int .i64 j ∧ PosIs w6 wr2 n (posTo P0 k)) (fun i _ => Lz k - (intOf i).toNat)
        case atStart => exact ⟨0, Nat.zero_le _, rfl, HP2.out⟩
        case round =>
          obtain ⟨j, hj, rfl, hP⟩ := hrel
          clear HP2
          have HP3 : Hid (PosIs w6 wr n (posTo P0 k)) := hP
          have hL := HE.out.later hP.below
          have kb := hL.befr k hlt
          have kg := hL.gotr k hlt
          clear hP
          by_cases hjlt : j < Lz k
          · obtain ⟨bb, ob, hAb, _, hcb⟩ := (hL.befc k hlt).lit (by omega)
            obtain ⟨bg, og, hAg, _, hcg⟩ := (hL.gotc k hlt).lit (by omega)
            have kc := hcb j hjlt
            have kd := hcg j (by omega)
            rw [E1.out j hjlt] at kd
            rw [hAb] at kb
            rw [hAg] at kg
            clear hAb hAg hcb hcg hL
            have hjg : j < Lf k := by omega
            go_wp2
            go_quiet (fail)
            go_wp2
            go_roundw
            case rel => exact ⟨j + 1, by omega, by go_num, HP3.out.drewN _⟩
            case measure => simp [intOf]; omega
          · obtain rfl : j = Lz k := by omega
            clear hL
            have k1 : wr.cell? ⟨w6.heap.size, k, none⟩ = some (.int .i64 (posTo P0 k k)) := HP3.out.row.cell hlt
            have k2 : wr.frozen? ⟨w6.heap.size, k, none⟩ = false := HP3.out.row.frozen k
            go_wp2
            go_roundw
            case rel => exact ⟨k + 1, by omega, by go_num, HP3.out.set fun o ho => by unfold posTo; by_cases e : o = k; (subst e; rw [if_pos (by omega), if_pos rfl, E0.out]); (rw [if_neg e]; by_cases e2 : o < k; rw [if_pos e2, if_pos (by omega)]; rw [if_neg e2, if_neg (by omega)])⟩
            case measure => simp [intOf]; omega
      · have E0 : Hid (P0 k = 0) := H2.out k hlt hla
        clear HC hL
        go_wp2
        go_roundw
        case rel => exact ⟨k + 1, by omega, by go_num, HP.out.congr fun o ho => by unfold posTo; by_cases e : o = k; (subst e; rw [if_neg (by omega), if_pos (by omega), E0.out]); (by_cases e2 : o < k; rw [if_pos e2, if_pos (by omega)]; rw [if_neg e2, if_neg (by omega)])⟩
        case measure => simp [intOf]; omega
    · obtain rfl : k = n := by omega
      go_wp2
      exact HC.out _ (HP.out.congr fun o ho => by unfold posTo; rw [if_pos ho])
end Go.Proofs.Qxb6616109a
