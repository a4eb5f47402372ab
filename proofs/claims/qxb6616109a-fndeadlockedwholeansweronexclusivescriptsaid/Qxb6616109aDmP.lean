import Derived.Test.Qxb6616109aDmN
import Derived.Deep.QuietTactic
import Derived.BigQuiet
namespace Go.Proofs.Qxb6616109a
open Go.RowKit Go.Deep Go.Joins
set_option linter.unusedSimpArgs false
set_option linter.unusedVariables false

theorem Lw.later {wD w w1 : World} {B : Bk} {N nT nG hb ob wb : Nat} {V : Nat → Nat → Value} {X : Nat → Nat → List Value} {md : Nat → Int} {H rq : Nat → Option Nat} {L : Nat → List Nat} (h : Lw wD w B N nT nG hb ob wb V X md H rq L) (hB : Below w.heap.size w w1) : Lw wD w1 B N nT nG hb ob wb V X md H rq L :=
  ⟨h.lx.later hB, h.x0, h.x1, h.x2, h.x3, h.rq, h.ho, h.mem, h.nd⟩

set_option maxHeartbeats 8000000 in
set_option maxRecDepth 100000 in
theorem dPhaseG (w0 wD w : World) (B : Bk) (N hb ob wb nT nG a m : Nat) (v : Int) (A2 A3 A4 : Option Addr) (c2 c3 c4 n5 at_ : Nat) (hnT : nT ≤ 4096) (hnG : nG ≤ 65536) (ha : a < nT) (hn5 : nT ≤ n5) (hn5' : n5 ≤ 4096) (hv0 : 0 ≤ v) (hv1 : v < 256)
    (V : Nat → Nat → Value) (X : Nat → Nat → List Value) (md : Nat → Int) (H rq : Nat → Option Nat) (L : Nat → List Nat) (h : Lw wD w B N nT nG hb ob wb V X md H rq L) (att : Nat → Int)
    (hB0 : Below w0.heap.size w0 wD) (hat : at_ < wD.heap.size) (hatt : ∀ i, i < n5 → wD.cell? ⟨at_, i, none⟩ = some (.int .i64 (att i))) (A : Option Addr) (c bw : Nat) (hbw : B.p < bw) (hown : w.ownsRow bw 3 1 (.slice A (lawW (nxOf H rq) a nT [a]).1.length c) (lawW (nxOf H rq) a nT [a]).1.length (ic (lawW (nxOf H rq) a nT [a]).1))
    {u8 u9 u10 u11 u12 u13 u14 u15 u16 u17 u18 u21 u24 u25 u26 u27 u28 u29 u32 u33 u34 u35 u36 u37 u38 u39 u40 u41 u42 u43 u44 u45 u46 u47 u48 u49 u50 u51 u52 u53 u54 u55 u56 u57 u58 u59 u60 u61 u62 u63 u64 u65 u66 u67 u68 u69 u70 u71 u72 u73 u74 u75 u76 u77 u78 u79 u80 u81 u82 u83 u84 u85 u86 u87 u88 u89 u90 u91 u92 u93 u94 u95 u96 u97 u98 u99 u100 u101 u102 u103 u104 u105 u106 u107 u108 u109 u110 u111 u112 u113 u114 u115 u116 u117 u118 u119 u120 u121 u122 u123 u124 u125 u126 u127 u128 u129 u130 u131 u132 u133 u134 u135 u136 u137 u138 u139 u140 u141 u142 u143 u144 u145 u146 u147 u148 u149 u150 u151 u152 u153 u154 u155 u156 u157 u158 u159 u160 u161 u162 u163 u164 u165 u166 u167 u168 u169 u170 u171 u172 u173 u174 u175 u176 u177 u178 u179 u180 u181 u182 u183 u184 u185 u186 u187 u188 u189 u190 u191 u192 u193 u194 u195 u196 u197 u198 u199 u200 u201 u202 u203 u204 u205 u206 u207 u208 u209 u210 u211 u212 u213 u214 u215 u216 u217 u218 u219 u220 u221 u222 u223 u224 u225 u226 u227 u228 u229 u230 u231 u232 u233 u234 u235 u236 u237 u238 u239 u240 u241 u242 u243 u244 u245 u246 u247 u248 u249 u250 u251 u252 u253 u254 u255 u256 u257 u258 u259 u260 u261 u262 u263 u264 u265 u266 u267 u268 u269 u270 u271 u272 u273 u274 u275 u276 u277 u278 u279 u280 u281 u282 u283 u284 u285 u286 u287 u288 u289 u290 u291 u292 u293 u294 u295 u296 u297 u298 u299 u300 u301 u302 u303 u304 u305 u306 u307 u308 u309 u310 u311 u312 u313 u314 u315 u316 u317 u318 u319 u320 u321 u322 u323 u324 u325 u326 u327 u328 u329 u330 u331 u332 u333 u334 u335 u336 u337 u338 u339 u340 u341 u342 u343 u344 u345 u346 u347 u348 u349 u350 u351 u352 u353 u354 u355 u356 u357 u358 u359 u360 u361 u362 u363 u364 u365 u366 u367 u368 u369 u370 u371 u372 u373 : Value} :
    Code.wp Try.prog (dropAt 18 (Try.f4.body.getD .skip)) (bodyPost Try.prog Try.f4 fun e w' => e = .returned (.bool true) ∧ Below w0.heap.size w0 w') ⟨#[.int .i64 (nT : Nat), .int .i64 (nG : Nat), .slice A2 m c2, .slice A3 m c3, .slice A4 m c4, .slice (some ⟨at_, 0, none⟩) n5 n5, .int .u8 v, .int .i64 (a : Nat), u8, u9, u10, u11, u12, u13, u14, u15, u16, u17, u18, .pointer (some ⟨B.p, 0, none⟩), .slice (some ⟨hb, 0, none⟩) nG nG, u21, .slice (some ⟨ob, 0, none⟩) nT nT, .slice (some ⟨wb, 0, none⟩) nT nT, u24, u25, u26, u27, u28, u29, .slice A (lawW (nxOf H rq) a nT [a]).1.length c, .bool (lawW (nxOf H rq) a nT [a]).2, u32, u33, u34, u35, u36, u37, u38, u39, u40, u41, u42, u43, u44, u45, u46, u47, u48, u49, u50, u51, u52, u53, u54, u55, u56, u57, u58, u59, u60, u61, u62, u63, u64, u65, u66, u67, u68, u69, u70, u71, u72, u73, u74, u75, u76, u77, u78, u79, u80, u81, u82, u83, u84, u85, u86, u87, u88, u89, u90, u91, u92, u93, u94, u95, u96, u97, u98, u99, u100, u101, u102, u103, u104, u105, u106, u107, u108, u109, u110, u111, u112, u113, u114, u115, u116, u117, u118, u119, u120, u121, u122, u123, u124, u125, u126, u127, u128, u129, u130, u131, u132, u133, u134, u135, u136, u137, u138, u139, u140, u141, u142, u143, u144, u145, u146, u147, u148, u149, u150, u151, u152, u153, u154, u155, u156, u157, u158, u159, u160, u161, u162, u163, u164, u165, u166, u167, u168, u169, u170, u171, u172, u173, u174, u175, u176, u177, u178, u179, u180, u181, u182, u183, u184, u185, u186, u187, u188, u189, u190, u191, u192, u193, u194, u195, u196, u197, u198, u199, u200, u201, u202, u203, u204, u205, u206, u207, u208, u209, u210, u211, u212, u213, u214, u215, u216, u217, u218, u219, u220, u221, u222, u223, u224, u225, u226, u227, u228, u229, u230, u231, u232, u233, u234, u235, u236, u237, u238, u239, u240, u241, u242, u243, u244, u245, u246, u247, u248, u249, u250, u251, u252, u253, u254, u255, u256, u257, u258, u259, u260, u261, u262, u263, u264, u265, u266, u267, u268, u269, u270, u271, u272, u273, u274, u275, u276, u277, u278, u279, u280, u281, u282, u283, u284, u285, u286, u287, u288, u289, u290, u291, u292, u293, u294, u295, u296, u297, u298, u299, u300, u301, u302, u303, u304, u305, u306, u307, u308, u309, u310, u311, u312, u313, u314, u315, u316, u317, u318, u319, u320, u321, u322, u323, u324, u325, u326, u327, u328, u329, u330, u331, u332, u333, u334, u335, u336, u337, u338, u339, u340, u341, u342, u343, u344, u345, u346, u347, u348, u349, u350, u351, u352, u353, u354, u355, u356, u357, u358, u359, u360, u361, u362, u363, u364, u365, u366, u367, u368, u369, u370, u371, u372, u373], []⟩ w := by
  conv => arg 2; simp only [Try.f4, Option.getD_some, cutAt, dropAt]
  have hsd := h.lx.sd
  have hbl := h.lx.below
  have hnx := (h.tb hnG).nx
  have hatt2 : ∀ i, i < nT → w.cell? ⟨at_, i, none⟩ = some (.int .i64 (att i)) := fun i hi => (World.cell?_of_block (hbl.block at_ hat)).trans (hatt i (by omega))
  obtain ⟨mv, ok, hd⟩ : ∃ mv ok, deadV (srch (nxOf H rq) a (nT + 1) [a]) v a (fun t => (L t).length) att = (mv, ok) := ⟨_, _, rfl⟩
  have k11 := zz11 a at_ n5 n5 v att w (h.tb hnG) hnT hnG ha hn5 (by omega) hv0 hv1 (by omega) hatt2 mv ok hd
  have hst := lawW_start hnx ha
  have hfin : ∀ w2, Sfr w.heap.size B.p w w2 → Below w0.heap.size w0 w2 := by
    intro w2 hS
    have s1 := hB0.size
    have s2 := hbl.size
    refine hB0.trans (((hbl.trans ⟨hS.os, hS.tape, hS.output, hS.size, fun b hb' => hS.block b (by omega) (by omega)⟩)).mono s1)
  have HFIN : Hid (∀ w2, Sfr w.heap.size B.p w w2 → Below w0.heap.size w0 w2) := hfin
  have HH : Hid (Lw wD w B N nT nG hb ob wb V X md H rq L) := h
  have HATT : Hid (∀ i, i < nT → w.cell? ⟨at_, i, none⟩ = some (.int .i64 (att i))) := hatt2
  have hord := h.lx.ord
  have hNs := h.lx.lk.size
  clear hfin h hatt hatt2 hB0 hbl
  cases hs : srch (nxOf H rq) a (nT + 1) [a] with
  | none =>
    have hb := hst.2 hs
    rw [hs] at hd
    obtain ⟨rfl, rfl⟩ : 0 = mv ∧ false = ok := by simpa [deadV] using hd
    rw [hb]
    obtain ⟨ll, hll⟩ : ∃ ll, (lawW (nxOf H rq) a nT [a]).1.length = ll := ⟨_, rfl⟩
    rw [hll]
    clear hst hd hown hnx hb hs hll
    go_wp2_with fail
    refine k11.mono ?_
    rintro e w2 ⟨rfl, hS⟩
    have HB : Hid (Below w0.heap.size w0 w2) := HFIN.out w2 hS
    clear k11 hS
    dsimp only
    go_wp2
    go_ret
    exact ⟨rfl, HB.out⟩
  | some Q =>
    have hlw := hst.1 Q hs
    have hway := srch_way hnx (nT + 1) (Way.start a nT ha) hs
    rw [hs] at hd
    rw [hlw] at hown ⊢
    obtain ⟨x, xs, rfl⟩ : ∃ x xs, Q = x :: xs := by
      cases Q with
      | nil => have := hway.hd; simp at this
      | cons x xs => exact ⟨x, xs, rfl⟩
    have hxa : a = x := by have := hway.hd; simpa using this.symm
    subst hxa
    simp only [List.length_cons] at hown ⊢
    obtain ⟨gc, cpc, ec⟩ := ownsRow_form hown (by omega)
    simp only [Value.slice.injEq] at ec
    obtain ⟨rfl, _, rfl⟩ := ec
    have hgc := hown.lt gc rfl
    have hxl : xs.length ≤ 4096 := by have := hway.len; simp at this; omega
    have hcy : ∀ i y : Nat, (a :: xs)[i]? = some y → w.cell? ⟨gc, i, none⟩ = some (.int .i64 (y : Int)) := fun i y hy => by
      rw [World.ownsRow.cellAt hown i (by
        rcases Nat.lt_or_ge i (a :: xs).length with h1 | h1
        · simp at h1; omega
        · rw [List.getElem?_eq_none h1] at hy; cases hy), ic_at, hy]
      rfl
    have HCY : Hid (∀ i y : Nat, (a :: xs)[i]? = some y → w.cell? ⟨gc, i, none⟩ = some (.int .i64 (y : Int))) := hcy
    have HLT : Hid (∀ y ∈ a :: xs, y < nT) := hway.lt
    clear hst hnx hcy hway hlw hs hown
    by_cases hv : v = 0
    · subst hv
      obtain ⟨rfl, rfl⟩ : a = mv ∧ true = ok := by simpa [deadV] using hd
      clear hd
      go_wp2_with fail
      refine k11.mono ?_
      rintro e w2 ⟨rfl, hS⟩
      have HB : Hid (Below w0.heap.size w0 w2) := HFIN.out w2 hS
      clear k11 hS
      dsimp only
      go_wp2
      go_ret
      exact ⟨rfl, HB.out⟩
    · obtain ⟨hmv, rfl⟩ : minF (cmpV (fun t => (L t).length) att) a xs = mv ∧ true = ok := by simpa [deadV, hv] using hd
      have hvb : (v == 0) = false := beq_eq_false_iff_ne.2 hv
      have HMV : Hid (minF (cmpV (fun t => (L t).length) att) a xs = mv) := hmv
      clear hd hmv
      go_wp2_with fail
      refine k11.mono ?_
      rintro e w2 ⟨rfl, hS⟩
      have HB : Hid (Below w0.heap.size w0 w2) := HFIN.out w2 hS
      have hbl2 : ∀ b, b < w.heap.size → b ≠ B.p → w2.heap[b]? = w.heap[b]? := hS.block
      have hcy2 : ∀ i y : Nat, (a :: xs)[i]? = some y → w2.cell? ⟨gc, i, none⟩ = some (.int .i64 (y : Int)) := fun i y hy => (World.cell?_of_block (hbl2 gc hgc.2 (by omega))).trans (HCY.out i y hy)
      have hla : ∀ t, t < nT → ∃ At ct, w2.cell? ⟨ob, t, none⟩ = some (.slice At (L t).length ct) := fun t ht => by
        obtain ⟨At, ct, _, _, hco, _⟩ := HH.out.lx.orow ht (HH.out.x3 t ht)
        have okp := HH.out.lx.okh.p.1
        exact ⟨At, ct, (World.cell?_of_block (hbl2 ob (by omega) (by omega))).trans hco⟩
      have hat2 : ∀ t, t < nT → w2.cell? ⟨at_, t, none⟩ = some (.int .i64 (att t)) := fun t ht => (World.cell?_of_block (hbl2 at_ (World.block_lt_of_cell? w _ (HATT.out t ht)) (by omega))).trans (HATT.out t ht)
      have HCY2 : Hid (∀ i y : Nat, (a :: xs)[i]? = some y → w2.cell? ⟨gc, i, none⟩ = some (.int .i64 (y : Int))) := hcy2
      have HLA : Hid (∀ t, t < nT → ∃ At ct, w2.cell? ⟨ob, t, none⟩ = some (.slice At (L t).length ct)) := hla
      have HAT2 : Hid (∀ t, t < nT → w2.cell? ⟨at_, t, none⟩ = some (.int .i64 (att t))) := hat2
      have c0 := hcy2 0 a rfl
      obtain ⟨n, hn⟩ : ∃ n, xs.length = n := ⟨_, rfl⟩
      rw [hn] at hxl ⊢
      clear k11 hS hbl2 hcy2 hla hat2 HCY HATT
      dsimp only
      go_wp2_with fail
      go_loopw [37, 38] (fun b i wr => ∃ (k d : Nat), k ≤ n ∧ i = .int .i64 ((k : Int) + 1) ∧ b = .int .i64 ((minF (cmpV (fun t => (L t).length) att) a (xs.take k) : Nat) : Int) ∧ wr = w2.drewN d) (fun _ i _ => n + 1 - (intOf i).toNat)
      case atStart => exact ⟨0, 0, by omega, rfl, by simp [minF], rfl⟩
      case round =>
        obtain ⟨k, d, hk, rfl, rfl, rfl⟩ := hrel
        clear c0
        by_cases hkn : k < n
        · have hat3 : xs[k]? = some (xs[k]'(by omega)) := List.getElem?_eq_getElem (by omega)
          obtain ⟨y, hy⟩ : ∃ y, xs[k]'(by omega) = y := ⟨_, rfl⟩
          rw [hy] at hat3
          obtain ⟨mm, hmm⟩ : ∃ mm, minF (cmpV (fun t => (L t).length) att) a (xs.take k) = mm := ⟨_, rfl⟩
          have hmem : mm ∈ a :: xs := by
            rw [← hmm]
            rcases minF_mem (cmpV (fun t => (L t).length) att) a (xs.take k) with h1 | h1
            · rw [h1]; simp
            · exact List.mem_cons_of_mem _ (List.mem_of_mem_take h1)
          have hyn := HLT.out y (List.mem_cons_of_mem _ (List.mem_of_getElem? hat3))
          have hmn := HLT.out mm hmem
          have hnext : minF (cmpV (fun t => (L t).length) att) a (xs.take (k + 1)) = if cmpV (fun t => (L t).length) att y mm < 0 then y else mm := by
            rw [List.take_add_one, hat3]
            simp only [Option.toList_some]
            rw [minF_snoc, hmm]
          have hcv := cmpV_lt (fun t => (L t).length) att y mm
          have q1 : w2.cell? ⟨gc, k + 1, none⟩ = some (.int .i64 (y : Int)) := HCY2.out (k + 1) y (by simpa using hat3)
          obtain ⟨Ay, cy, q2⟩ := HLA.out y hyn
          obtain ⟨Am, cm, q3⟩ := HLA.out mm hmn
          have q4 := HAT2.out y hyn
          have q5 := HAT2.out mm hmn
          have hyl := HH.out.ll hnG hyn
          have hml := HH.out.ll hnG hmn
          obtain ⟨ly, hly⟩ : ∃ ly, (L y).length = ly := ⟨_, rfl⟩
          obtain ⟨lm, hlm⟩ : ∃ lm, (L mm).length = lm := ⟨_, rfl⟩
          obtain ⟨ty, hty⟩ : ∃ ty, att y = ty := ⟨_, rfl⟩
          obtain ⟨tm, htm⟩ : ∃ tm, att mm = tm := ⟨_, rfl⟩
          simp only [hly, hlm, hty, htm] at hcv
          rw [hly] at q2 hyl
          rw [hlm] at q3 hml
          rw [hty] at q4
          rw [htm] at q5
          rw [hmm]
          have HNEXT : Hid (minF (cmpV (fun t => (L t).length) att) a (xs.take (k + 1)) = if cmpV (fun t => (L t).length) att y mm < 0 then y else mm) := hnext
          have HCV : Hid (cmpV (fun t => (L t).length) att y mm < 0 ↔ ly < lm ∨ (ly = lm ∧ tm < ty)) := hcv
          have q1' : (w2.drewN d).cell? ⟨gc, k + 1, none⟩ = some (.int .i64 (y : Int)) := q1
          have q2' : (w2.drewN d).cell? ⟨ob, y, none⟩ = some (.slice Ay ly cy) := q2
          have q3' : (w2.drewN d).cell? ⟨ob, mm, none⟩ = some (.slice Am lm cm) := q3
          have q4' : (w2.drewN d).cell? ⟨at_, y, none⟩ = some (.int .i64 ty) := q4
          have q5' : (w2.drewN d).cell? ⟨at_, mm, none⟩ = some (.int .i64 tm) := q5
          obtain ⟨w3, hw3⟩ : ∃ w3, w2.drewN d = w3 := ⟨_, rfl⟩
          rw [hw3] at q1' q2' q3' q4' q5' ⊢
          have HW3 : Hid (w2.drewN d = w3) := hw3
          have hyn5 : y < n5 := by omega
          have hmn5 : mm < n5 := by omega
          clear hnext hcv hmem hat3 hy hmm hly hlm hty htm q1 q2 q3 q4 q5 hw3
          have key : ∀ (r : Nat), minF (cmpV (fun t => (L t).length) att) a (xs.take (k + 1)) = r → ∀ d2, ∃ (k' d : Nat), k' ≤ n ∧ Value.int .i64 ((k : Int) + 1 + 1) = .int .i64 ((k' : Int) + 1) ∧ Value.int .i64 (r : Int) = .int .i64 ((minF (cmpV (fun t => (L t).length) att) a (xs.take k') : Nat) : Int) ∧ w3.drewN d2 = w2.drewN d := by
            intro r hr d2
            refine ⟨k + 1, d + d2, by omega, by simp, by rw [hr], ?_⟩
            rw [← HW3.out]
            simp [World.drewN, Nat.add_assoc]
          have HKEY : Hid (∀ (r : Nat), minF (cmpV (fun t => (L t).length) att) a (xs.take (k + 1)) = r → ∀ d2, ∃ (k' d : Nat), k' ≤ n ∧ Value.int .i64 ((k : Int) + 1 + 1) = .int .i64 ((k' : Int) + 1) ∧ Value.int .i64 (r : Int) = .int .i64 ((minF (cmpV (fun t => (L t).length) att) a (xs.take k') : Nat) : Int) ∧ w3.drewN d2 = w2.drewN d) := key
          clear key
          by_cases h1 : ly < lm
          · have s1 : decide ((ly : Int) < (lm : Int)) = true := decide_eq_true (by omega)
            have hr := HNEXT.out
            rw [if_pos (HCV.out.2 (.inl h1))] at hr
            go_wp2_with fail
            go_quiet (fail)
            go_wp2
            go_roundw
            case rel => exact HKEY.out y hr _
            case measure => simp [intOf]; omega
          · have s1 : decide ((ly : Int) < (lm : Int)) = false := decide_eq_false (by omega)
            by_cases h2 : ly = lm
            · have s2 : ((ly : Int) == (lm : Int)) = true := beq_iff_eq.2 (by omega)
              by_cases h3 : tm < ty
              · have s3 : decide (tm < ty) = true := decide_eq_true h3
                have hr := HNEXT.out
                rw [if_pos (HCV.out.2 (.inr ⟨h2, h3⟩))] at hr
                go_wp2_with fail
                go_quiet (fail)
                go_wp2
                go_roundw
                case rel => exact HKEY.out y hr _
                case measure => simp [intOf]; omega
              · have s3 : decide (tm < ty) = false := decide_eq_false h3
                have hr := HNEXT.out
                rw [if_neg (fun h => by rcases HCV.out.1 h with h | h <;> omega)] at hr
                go_wp2_with fail
                go_quiet (fail)
                go_wp2
                go_roundw
                case rel => exact HKEY.out mm hr _
                case measure => simp [intOf]; omega
            · have s2 : ((ly : Int) == (lm : Int)) = false := beq_eq_false_iff_ne.2 (by omega)
              have hr := HNEXT.out
              rw [if_neg (fun h => by rcases HCV.out.1 h with h | h <;> omega)] at hr
              go_wp2_with fail
              go_quiet (fail)
              go_wp2
              go_roundw
              case rel => exact HKEY.out mm hr _
              case measure => simp [intOf]; omega
        · obtain rfl : k = n := by omega
          have e1 : xs.take k = xs := List.take_of_length_le (by omega)
          rw [e1, HMV.out]
          clear e1
          go_wp2
          go_ret
          exact ⟨rfl, below_drewN0 HB.out _⟩
end Go.Proofs.Qxb6616109a
