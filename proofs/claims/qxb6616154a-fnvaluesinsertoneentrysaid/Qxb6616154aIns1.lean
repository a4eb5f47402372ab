import Derived.Test.Qxb6616154aIns0
namespace Go.Proofs.Qxb6616154a
open Go.RowKit Go.Deep Go.Joins
set_option linter.unusedVariables false
set_option maxRecDepth 100000 in
set_option maxHeartbeats 4000000 in
theorem phaseI1 (C : Code) (A0 A1 A2 : Option Addr) (n2 c0 c1 c2 an : Nat) (nl : Int) (sn sv s : ByteArray) (nm vl : Nat → ByteArray) (ln : Nat → Int) (w : World) (mb0 : n2 ≤ 65536) (han : an ≤ n2)
    (hc0 : Cells w A0 n2 (fun i => .string (nm i))) (hc1 : Cells w A1 n2 (fun i => .int .i64 (ln i))) (hc2 : Cells w A2 n2 (fun i => .string (vl i)))
    {u8 u9 u10 u11 u12 u13 u14 u15 u16 u17 u18 u19 u20 u21 u22 u23 u24 u25 u26 u27 u28 u29 u30 u31 u32 u33 u34 u35 u36 u37 u38 u39 u40 u41 u42 u43 u44 u45 u46 u47 u48 u49 u50 u51 u52 u53 u54 u55 u56 u57 u58 u59 u60 u61 u62 u63 u64 u65 u66 u67 u68 u69 u70 u71 u72 u73 u74 u75 u76 u77 u78 u79 u80 u81 u82 u83 u84 u85 u86 u87 u88 u89 u90 u91 u92 u93 u94 u95 u96 u97 u98 u99 u100 u101 u102 u103 u104 u105 u106 u107 u108 u109 u110 u111 u112 u113 u114 u115 u116 u117 u118 u119 u120 u121 u122 u123 u124 u125 u126 u127 u128 u129 u130 u131 u132 u133 u134 u135 u136 u137 u138 u139 u140 u141 u142 u143 u144 u145 u146 u147 u148 u149 u150 u151 u152 u153 u154 u155 u156 u157 u158 u159 u160 u161 u162 u163 u164 u165 u166 u167 u168 u169 u170 u171 u172 u173 u174 u175 u176 u177 u178 u179 u180 u181 u182 u183 u184 u185 u186 u187 u188 u189 u190 u191 u192 u193 u194 u195 u196 u197 u198 u199 u200 u201 u202 u203 u204 u205 u206 u207 u208 u209 u210 u211 u212 u213 u214 u215 u216 u217 u218 u219 u220 u221 u222 u223 u224 u225 u226 u227 u228 u229 : Value}
    (hC : ∀ (w2 : World) (g1 ga gw : Nat) (L : List Ent) {u1 u2 u5 u6 u8 u9 u10 u11 u12 u13 u14 u15 u16 u20 u21 u22 u23 u24 u25 u26 u27 u28 u29 u30 u31 u32 u33 u34 u35 u36 u37 u38 u39 u40 u41 u42 u43 u44 u45 u46 u47 u48 u49 u50 u51 u52 u53 u54 u55 u56 u57 u58 u59 u60 u61 u62 u63 u64 u65 u66 u67 u68 u69 u70 u71 u72 u73 u74 u75 u76 u77 u78 u79 u80 u81 u82 u83 u84 u85 u86 u87 u88 u89 u90 u91 u92 u93 u94 u95 u96 u97 u98 u99 u100 u101 u102 u103 u104 u105 u106 u107 u108 u109 u110 u111 u112 u113 u114 u115 u116 u117 u118 u119 u120 u121 u122 u123 u124 u125 u126 u127 u128 u129 u130 u131 u132 u133 u134 u135 u136 u137 u138 u139 u140 u141 u142 u143 u144 u145 u146 u147 u148 u149 u150 u151 u152 u153 u154 u155 u156 u157 u158 u159 u160 u161 u162 u163 u164 u165 u166 u167 u168 u169 u170 u171 u172 u173 u174 u175 u176 u177 u178 u179 u180 u181 u182 u183 u184 u185 u186 u187 u188 u189 u190 u191 u192 u193 u194 u195 u196 u197 u198 u199 u200 u201 u202 u203 u204 u205 u206 u207 u208 u209 u210 u211 u212 u213 u214 u215 u216 u217 u218 u219 u220 u221 u222 u223 u224 u225 u226 u227 u228 u229 : Value}, L.length = n2 → (∀ i (h : i < L.length), L[i].nm = nm i) →
      Begun5 w w2 g1 ga gw L (insL L an ⟨sn, nl, sv⟩) ⟨sn, nl, sv⟩ → Code.wp Try.prog C (bodyPost Try.prog Try.f5 fun e w' => e = .returned (.bool true) ∧ Below w.heap.size w w') ⟨#[.slice A0 n2 c0, u1, u2, .int .i64 (an : Nat), .string sn, u5, u6, .string s, u8, u9, u10, u11, u12, u13, u14, u15, u16, .slice (some ⟨g1, 0, none⟩) n2 n2, .pointer (some ⟨ga, 0, none⟩), .slice (some ⟨gw, 0, none⟩) (n2 + 1) (n2 + 1), u20, u21, u22, u23, u24, u25, u26, u27, u28, u29, u30, u31, u32, u33, u34, u35, u36, u37, u38, u39, u40, u41, u42, u43, u44, u45, u46, u47, u48, u49, u50, u51, u52, u53, u54, u55, u56, u57, u58, u59, u60, u61, u62, u63, u64, u65, u66, u67, u68, u69, u70, u71, u72, u73, u74, u75, u76, u77, u78, u79, u80, u81, u82, u83, u84, u85, u86, u87, u88, u89, u90, u91, u92, u93, u94, u95, u96, u97, u98, u99, u100, u101, u102, u103, u104, u105, u106, u107, u108, u109, u110, u111, u112, u113, u114, u115, u116, u117, u118, u119, u120, u121, u122, u123, u124, u125, u126, u127, u128, u129, u130, u131, u132, u133, u134, u135, u136, u137, u138, u139, u140, u141, u142, u143, u144, u145, u146, u147, u148, u149, u150, u151, u152, u153, u154, u155, u156, u157, u158, u159, u160, u161, u162, u163, u164, u165, u166, u167, u168, u169, u170, u171, u172, u173, u174, u175, u176, u177, u178, u179, u180, u181, u182, u183, u184, u185, u186, u187, u188, u189, u190, u191, u192, u193, u194, u195, u196, u197, u198, u199, u200, u201, u202, u203, u204, u205, u206, u207, u208, u209, u210, u211, u212, u213, u214, u215, u216, u217, u218, u219, u220, u221, u222, u223, u224, u225, u226, u227, u228, u229], []⟩ w2) :
    Code.wp Try.prog (cutAt 6 (dropAt 6 (Try.f5.body.getD .skip)) C) (bodyPost Try.prog Try.f5 fun e w' => e = .returned (.bool true) ∧ Below w.heap.size w w') ⟨#[.slice A0 n2 c0, .slice A1 n2 c1, .slice A2 n2 c2, .int .i64 (an : Nat), .string sn, .int .i64 nl, .string sv, .string s, u8, u9, u10, u11, u12, u13, u14, u15, u16, u17, u18, u19, u20, u21, u22, u23, u24, u25, u26, u27, u28, u29, u30, u31, u32, u33, u34, u35, u36, u37, u38, u39, u40, u41, u42, u43, u44, u45, u46, u47, u48, u49, u50, u51, u52, u53, u54, u55, u56, u57, u58, u59, u60, u61, u62, u63, u64, u65, u66, u67, u68, u69, u70, u71, u72, u73, u74, u75, u76, u77, u78, u79, u80, u81, u82, u83, u84, u85, u86, u87, u88, u89, u90, u91, u92, u93, u94, u95, u96, u97, u98, u99, u100, u101, u102, u103, u104, u105, u106, u107, u108, u109, u110, u111, u112, u113, u114, u115, u116, u117, u118, u119, u120, u121, u122, u123, u124, u125, u126, u127, u128, u129, u130, u131, u132, u133, u134, u135, u136, u137, u138, u139, u140, u141, u142, u143, u144, u145, u146, u147, u148, u149, u150, u151, u152, u153, u154, u155, u156, u157, u158, u159, u160, u161, u162, u163, u164, u165, u166, u167, u168, u169, u170, u171, u172, u173, u174, u175, u176, u177, u178, u179, u180, u181, u182, u183, u184, u185, u186, u187, u188, u189, u190, u191, u192, u193, u194, u195, u196, u197, u198, u199, u200, u201, u202, u203, u204, u205, u206, u207, u208, u209, u210, u211, u212, u213, u214, u215, u216, u217, u218, u219, u220, u221, u222, u223, u224, u225, u226, u227, u228, u229], []⟩ w := by
  conv => arg 2; simp only [Try.f5, Option.getD_some, cutAt, dropAt]
  have HCC : Hid _ := @hC
  have C0 : Hid (Cells w A0 n2 (fun i => .string (nm i))) := hc0
  have C1 : Hid (Cells w A1 n2 (fun i => .int .i64 (ln i))) := hc1
  have C2 : Hid (Cells w A2 n2 (fun i => .string (vl i))) := hc2
  clear hC hc0 hc1 hc2
  go_wp2_with fail
  refine (build8 A0 A1 A2 n2 c0 c1 c2 nm vl ln w (by omega) C0.out C1.out C2.out).mono ?_
  rintro e w1 ⟨rfl, d, hw1⟩
  have hL := mkL_length n2 nm vl ln
  have hb1 : Below w.heap.size w w1 := by rw [hw1]; exact below_drewN ((Below.refl _ _).alloc (Nat.le_refl _) _) d
  have hE1 : HasE w1 (some ⟨w.heap.size, 0, none⟩) (mkL n2 nm vl ln) := has_block (by rw [hw1]; exact blk_alloc_new _ _)
  have hz1 : w.heap.size < w1.heap.size := by rw [hw1]; show _ < (w.alloc _).heap.size; rw [nblk_alloc]; omega
  obtain ⟨L, hLL⟩ : ∃ L, mkL n2 nm vl ln = L := ⟨_, rfl⟩
  have hatt : ∀ i (h : i < L.length), L[i].nm = nm i := by subst hLL; intro i h; rw [mkL_at n2 nm vl ln i h]
  rw [hLL] at hL hE1
  clear hw1 hLL
  have HLn : Hid (L.length = n2) := hL
  have HE1 : Hid (HasE w1 (some ⟨w.heap.size, 0, none⟩) L) := hE1
  have HB1 : Hid (Below w.heap.size w w1) := hb1
  have HAt : Hid (∀ i (h : i < L.length), L[i].nm = nm i) := hatt
  clear hL hE1 hb1 hatt C0 C1 C2
  dsimp only
  obtain ⟨i32, hi32, hz0, hzz1, hz2⟩ := info_parts info32
  have hmk : ∀ w, (Instr.makeSlice 26 (.int .i64 ((n2 : Int) + 1)) (.int .i64 ((n2 : Int) + 1))).run Try.prog w = .ok (.slice (some ⟨w.heap.size, 0, none⟩) (n2 + 1) (n2 + 1)) (w.alloc (.cells (madeCells #[.string ⟨#[]⟩, .int .i64 0, .string ⟨#[]⟩, .pointer none] ((n2 + 1) * 4)) 32)) := by
    intro w
    have h := run_make (P := Try.prog) w 26 32 i32 _ Try.underlying26 hi32 hz0 .i64 .i64 ((n2 + 1 : Nat) : Int) ((n2 + 1 : Nat) : Int) (by omega) (Int.le_refl _) (by rw [hz2]; omega) (by omega)
    rw [hzz1] at h
    simp only [Int.toNat_natCast] at h
    exact h
  clear hi32 hz0 hzz1 hz2
  go_wp2
  obtain ⟨W0, hW0⟩ : ∃ W0, w1.alloc (.cells #[.string sn, .int .i64 nl, .string sv, .pointer none] 32) = W0 := ⟨_, rfl⟩
  have hbW : Below w1.heap.size w1 W0 := by rw [← hW0]; exact (Below.refl _ _).alloc (Nat.le_refl _) _
  have hsW : W0.heap.size = w1.heap.size + 1 := by rw [← hW0, nblk_alloc]
  have hlt1 : w1.heap.size < W0.heap.size := by omega
  have ca : ∀ i, W0.cell? ⟨w1.heap.size, i, none⟩ = (#[.string sn, .int .i64 nl, .string sv, .pointer none] : Array Value)[i]? := fun i => by rw [← hW0]; exact Go.Joins.cell_of_block (blk_alloc_new _ _) i
  have ca0 : ∀ o, (W0.alloc o).cell? ⟨w1.heap.size, 0, none⟩ = some (.string sn) := fun o => (World.cell?_alloc_lt W0 _ _ (by exact hlt1)).trans (by rw [ca]; rfl)
  have ca1 : ∀ o, (W0.alloc o).cell? ⟨w1.heap.size, 1, none⟩ = some (.int .i64 nl) := fun o => (World.cell?_alloc_lt W0 _ _ (by exact hlt1)).trans (by rw [ca]; rfl)
  have ca2 : ∀ o, (W0.alloc o).cell? ⟨w1.heap.size, 2, none⟩ = some (.string sv) := fun o => (World.cell?_alloc_lt W0 _ _ (by exact hlt1)).trans (by rw [ca]; rfl)
  have ca3 : ∀ o, (W0.alloc o).cell? ⟨w1.heap.size, 3, none⟩ = some (.pointer none) := fun o => (World.cell?_alloc_lt W0 _ _ (by exact hlt1)).trans (by rw [ca]; rfl)
  rw [hW0]
  rw [← hsW]
  have HE0 : Hid (HasE W0 (some ⟨w.heap.size, 0, none⟩) L) := HE1.out.below hbW (Nat.le_refl _)
  have HB0 : Hid (Below w.heap.size w W0) := HB1.out.trans (hbW.mono (by omega))
  have hzW : w.heap.size < W0.heap.size := by omega
  have HSW : Hid (W0.heap.size = w1.heap.size + 1) := hsW
  clear hbW hW0 hsW ca HE1 HB1 hmk
  obtain ⟨Lw, hLw⟩ : ∃ Lw, insL L an ⟨sn, nl, sv⟩ = Lw := ⟨_, rfl⟩
  have HLw : Hid (insL L an ⟨sn, nl, sv⟩ = Lw) := hLw
  have hLwl : Lw.length = n2 + 1 := by rw [← hLw, insL_length, HLn.out]
  have HLwl : Hid (Lw.length = n2 + 1) := hLwl
  clear hLw hLwl
  go_loopw [20] (fun i wr => ∃ (k : Nat) (c : Array Value), k ≤ an ∧ i = .int .i64 k ∧ wr = W0.alloc (.cells c 32) ∧ c.size = (n2 + 1) * 4 ∧ Hid (∀ j, j < k * 4 → c[j]? = (cellsE Lw)[j]?)) (fun i _ => an - (intOf i).toNat)
  case atStart => exact ⟨0, _, Nat.zero_le _, rfl, rfl, size_madeCells _ _, fun j hj => by omega⟩
  case round =>
    obtain ⟨k, c, hk, rfl, rfl, hsz, HK⟩ := hrel
    by_cases hlt : k < an
    · have hkl : k < L.length := by rw [HLn.out]; omega
      obtain ⟨b, off, eb, g0, g1, g2, g3⟩ := HE0.out.at_ k hkl
      simp only [Option.some.injEq, Addr.mk.injEq] at eb
      obtain ⟨rfl, rfl, _⟩ := eb
      rw [Nat.zero_add] at g0 g1 g2 g3
      obtain ⟨e, he⟩ : ∃ e, L[k] = e := ⟨_, rfl⟩
      rw [he] at g0 g1 g2
      have hkw : k < Lw.length := by rw [HLwl.out]; omega
      have HEE : Hid (Lw[k] = ⟨e.nm, e.ln, e.vl⟩) := by
        show Lw[k] = ⟨e.nm, e.ln, e.vl⟩
        have h := HLw.out
        subst h
        rw [insL_lt L an _ k hlt hkl, he]
      have f0 : ∀ o, (W0.alloc o).cell? ⟨w.heap.size, k * 4, none⟩ = some (.string e.nm) := fun o => (World.cell?_alloc_lt W0 _ _ (by exact hzW)).trans g0
      have f1 : ∀ o, (W0.alloc o).cell? ⟨w.heap.size, k * 4 + 1, none⟩ = some (.int .i64 e.ln) := fun o => (World.cell?_alloc_lt W0 _ _ (by exact hzW)).trans g1
      have f2 : ∀ o, (W0.alloc o).cell? ⟨w.heap.size, k * 4 + 2, none⟩ = some (.string e.vl) := fun o => (World.cell?_alloc_lt W0 _ _ (by exact hzW)).trans g2
      have f3 : ∀ o, (W0.alloc o).cell? ⟨w.heap.size, k * 4 + 3, none⟩ = some (.pointer none) := fun o => (World.cell?_alloc_lt W0 _ _ (by exact hzW)).trans g3
      obtain ⟨x0, e0⟩ : ∃ x, c[k * 4]? = some x := ⟨_, Array.getElem?_eq_getElem (by omega)⟩
      obtain ⟨x1, e1⟩ : ∃ x, c[k * 4 + 1]? = some x := ⟨_, Array.getElem?_eq_getElem (by omega)⟩
      obtain ⟨x2, e2⟩ : ∃ x, c[k * 4 + 2]? = some x := ⟨_, Array.getElem?_eq_getElem (by omega)⟩
      obtain ⟨x3, e3⟩ : ∃ x, c[k * 4 + 3]? = some x := ⟨_, Array.getElem?_eq_getElem (by omega)⟩
      clear HCC HE0 HB0 HLn HAt HLw HLwl ca0 ca1 ca2 ca3 g0 g1 g2 g3 he
      go_wp2
      go_roundw
      case rel =>
        refine ⟨k + 1, _, by omega, by go_num, rfl, by simpa using hsz, ?_⟩
        exact fill4 (by omega) HK.out hkw HEE.out
      case measure => simp [intOf]; omega
    · obtain rfl : k = an := by omega
      obtain ⟨x0, e0⟩ : ∃ x, c[k * 4]? = some x := ⟨_, Array.getElem?_eq_getElem (by omega)⟩
      obtain ⟨x1, e1⟩ : ∃ x, c[k * 4 + 1]? = some x := ⟨_, Array.getElem?_eq_getElem (by omega)⟩
      obtain ⟨x2, e2⟩ : ∃ x, c[k * 4 + 2]? = some x := ⟨_, Array.getElem?_eq_getElem (by omega)⟩
      obtain ⟨x3, e3⟩ : ∃ x, c[k * 4 + 3]? = some x := ⟨_, Array.getElem?_eq_getElem (by omega)⟩
      have hkw : k < Lw.length := by rw [HLwl.out]; omega
      have HEE : Hid (Lw[k] = ⟨sn, nl, sv⟩) := by
        show Lw[k] = ⟨sn, nl, sv⟩
        have h := HLw.out
        subst h
        rw [insL_at L k _ (by rw [HLn.out]; omega)]
      go_wp2
      have HK2 : Hid (∀ j, j < (k + 1) * 4 → ((((c.setIfInBounds (k * 4) (.string sn)).setIfInBounds (k * 4 + 1) (.int .i64 nl)).setIfInBounds (k * 4 + 2) (.string sv)).setIfInBounds (k * 4 + 3) (.pointer none))[j]? = (cellsE Lw)[j]?) := fill4 (by omega) HK.out hkw HEE.out
      clear e0 e1 e2 e3 HEE hkw
      go_loopw [21] (fun i wr => ∃ (j : Nat) (c : Array Value), k ≤ j ∧ j ≤ n2 ∧ i = .int .i64 j ∧ wr = W0.alloc (.cells c 32) ∧ c.size = (n2 + 1) * 4 ∧ Hid (∀ q, q < (j + 1) * 4 → c[q]? = (cellsE Lw)[q]?)) (fun i _ => n2 - (intOf i).toNat)
      case atStart => exact ⟨k, _, Nat.le_refl _, han, rfl, rfl, by simpa using hsz, HK2.out⟩
      case round =>
        obtain ⟨j, c', hj1, hj2, rfl, rfl, hsz', HK3⟩ := hrel
        clear HK2 HK
        by_cases hlt2 : j < n2
        · have hkl : j < L.length := by rw [HLn.out]; omega
          obtain ⟨b, off, eb, g0, g1, g2, g3⟩ := HE0.out.at_ j hkl
          simp only [Option.some.injEq, Addr.mk.injEq] at eb
          obtain ⟨rfl, rfl, _⟩ := eb
          rw [Nat.zero_add] at g0 g1 g2 g3
          obtain ⟨e, he⟩ : ∃ e, L[j] = e := ⟨_, rfl⟩
          rw [he] at g0 g1 g2
          have hkw : j + 1 < Lw.length := by rw [HLwl.out]; omega
          have HEE : Hid (Lw[j + 1] = ⟨e.nm, e.ln, e.vl⟩) := by
            show Lw[j + 1] = ⟨e.nm, e.ln, e.vl⟩
            have h := HLw.out
            subst h
            rw [insL_gt L k _ j hj1 hkl, he]
          have f0 : ∀ o, (W0.alloc o).cell? ⟨w.heap.size, j * 4, none⟩ = some (.string e.nm) := fun o => (World.cell?_alloc_lt W0 _ _ (by exact hzW)).trans g0
          have f1 : ∀ o, (W0.alloc o).cell? ⟨w.heap.size, j * 4 + 1, none⟩ = some (.int .i64 e.ln) := fun o => (World.cell?_alloc_lt W0 _ _ (by exact hzW)).trans g1
          have f2 : ∀ o, (W0.alloc o).cell? ⟨w.heap.size, j * 4 + 2, none⟩ = some (.string e.vl) := fun o => (World.cell?_alloc_lt W0 _ _ (by exact hzW)).trans g2
          have f3 : ∀ o, (W0.alloc o).cell? ⟨w.heap.size, j * 4 + 3, none⟩ = some (.pointer none) := fun o => (World.cell?_alloc_lt W0 _ _ (by exact hzW)).trans g3
          obtain ⟨x0, e0⟩ : ∃ x, c'[(j + 1) * 4]? = some x := ⟨_, Array.getElem?_eq_getElem (by omega)⟩
          obtain ⟨x1, e1⟩ : ∃ x, c'[(j + 1) * 4 + 1]? = some x := ⟨_, Array.getElem?_eq_getElem (by omega)⟩
          obtain ⟨x2, e2⟩ : ∃ x, c'[(j + 1) * 4 + 2]? = some x := ⟨_, Array.getElem?_eq_getElem (by omega)⟩
          obtain ⟨x3, e3⟩ : ∃ x, c'[(j + 1) * 4 + 3]? = some x := ⟨_, Array.getElem?_eq_getElem (by omega)⟩
          clear HCC HE0 HB0 HLn HAt HLw HLwl ca0 ca1 ca2 ca3 g0 g1 g2 g3 he
          go_wp2
          go_roundw
          case rel =>
            refine ⟨j + 1, _, by omega, by omega, by go_num, rfl, by simpa using hsz', ?_⟩
            exact fill4 (by omega) HK3.out hkw HEE.out
          case measure => simp [intOf]; omega
        · have hcc : c' = (cellsE Lw).toArray := fill_all (by rw [HLwl.out]; exact hsz') (fun q hq => HK3.out q (by rw [HLwl.out] at hq; omega))
          have HF : Hid (Begun5 w (W0.alloc (.cells c' 32)) w.heap.size w1.heap.size W0.heap.size L (insL L k ⟨sn, nl, sv⟩) ⟨sn, nl, sv⟩) := by
            have hbb : Below W0.heap.size W0 (W0.alloc (.cells c' 32)) := (Below.refl _ _).alloc (Nat.le_refl _) _
            refine ⟨HB0.out.trans (hbb.mono (by omega)), HE0.out.below hbb (Nat.le_refl _), ?_, ca0 _, ca1 _, ca2 _, ca3 _⟩
            rw [HLw.out]
            exact has_block (by rw [hcc]; exact blk_alloc_new _ _)
          clear hcc HK3 HE0 HB0 ca0 ca1 ca2 ca3
          go_wp2
          exact HCC.out _ _ _ _ L HLn.out HAt.out HF.out
end Go.Proofs.Qxb6616154a
