import Derived.Test.Qxb6616154aSplitB
namespace Go.Proofs.Qxb6616154a
open Go.RowKit Go.Deep Go.Joins
set_option linter.unusedVariables false

/-- The list with one entry put in. -/
def insL (L : List Ent) (a : Nat) (e : Ent) : List Ent := L.take a ++ e :: L.drop a
theorem insL_length (L : List Ent) (a : Nat) (e : Ent) : (insL L a e).length = L.length + 1 := by simp [insL]; omega
theorem insL_lt (L : List Ent) (a : Nat) (e : Ent) (i : Nat) (hi : i < a) (hL : i < L.length) (h : i < (insL L a e).length) : (insL L a e)[i] = L[i] := by
  apply Option.some.inj
  rw [← List.getElem?_eq_getElem, ← List.getElem?_eq_getElem]
  unfold insL
  rw [List.getElem?_append_left (by rw [List.length_take]; omega), List.getElem?_take, if_pos hi]
theorem insL_at (L : List Ent) (a : Nat) (e : Ent) (hL : a ≤ L.length) (h : a < (insL L a e).length) : (insL L a e)[a] = e := by
  apply Option.some.inj
  rw [← List.getElem?_eq_getElem]
  unfold insL
  rw [List.getElem?_append_right (by rw [List.length_take]; omega)]
  have : a - (L.take a).length = 0 := by rw [List.length_take]; omega
  rw [this]; rfl
theorem insL_gt (L : List Ent) (a : Nat) (e : Ent) (i : Nat) (hi : a ≤ i) (hL : i < L.length) (h : i + 1 < (insL L a e).length) : (insL L a e)[i + 1] = L[i] := by
  apply Option.some.inj
  rw [← List.getElem?_eq_getElem, ← List.getElem?_eq_getElem]
  unfold insL
  rw [List.getElem?_append_right (by rw [List.length_take]; omega)]
  have : i + 1 - (L.take a).length = (i - a) + 1 := by rw [List.length_take]; omega
  rw [this, List.getElem?_cons_succ, List.getElem?_drop, show a + (i - a) = i by omega]

/-- What lies in memory when both lists are built. -/
structure Begun5 (w w2 : World) (g1 ga gw : Nat) (L Lw : List Ent) (e : Ent) : Prop where
  below : Below w.heap.size w w2
  hl : HasE w2 (some ⟨g1, 0, none⟩) L
  hw : HasE w2 (some ⟨gw, 0, none⟩) Lw
  a0 : w2.cell? ⟨ga, 0, none⟩ = some (.string e.nm)
  a1 : w2.cell? ⟨ga, 1, none⟩ = some (.int .i64 e.ln)
  a2 : w2.cell? ⟨ga, 2, none⟩ = some (.string e.vl)
  a3 : w2.cell? ⟨ga, 3, none⟩ = some (.pointer none)

theorem Begun5.later {w w2 wr : World} {g1 ga gw : Nat} {L Lw : List Ent} {e : Ent} (h : Begun5 w w2 g1 ga gw L Lw e) (hb : Below w2.heap.size w2 wr) : Begun5 w wr g1 ga gw L Lw e := by
  have hlt : ga < w2.heap.size := World.block_lt_of_cell? w2 _ h.a0
  exact ⟨h.below.trans (hb.mono h.below.size), h.hl.below hb (Nat.le_refl _), h.hw.below hb (Nat.le_refl _), (hb.cell (by exact hlt)).trans h.a0, (hb.cell (by exact hlt)).trans h.a1, (hb.cell (by exact hlt)).trans h.a2, (hb.cell (by exact hlt)).trans h.a3⟩

/-- Four stores into the last block. -/
theorem set4' (w : World) (c : Array Value) (t : TypeId) (i0 i1 i2 i3 : Nat) (v0 v1 v2 v3 : Value) :
    ((((w.alloc (.cells c t)).setCell ⟨w.heap.size, i0, none⟩ v0).setCell ⟨w.heap.size, i1, none⟩ v1).setCell ⟨w.heap.size, i2, none⟩ v2).setCell ⟨w.heap.size, i3, none⟩ v3 =
      w.alloc (.cells ((((c.setIfInBounds i0 v0).setIfInBounds i1 v1).setIfInBounds i2 v2).setIfInBounds i3 v3) t) := by
  rw [World.setCell_alloc_new, World.setCell_alloc_new, World.setCell_alloc_new, World.setCell_alloc_new]

set_option maxRecDepth 100000 in
set_option maxHeartbeats 4000000 in
theorem phaseI0 (C : Code) (A0 A1 A2 : Option Addr) (n0 c0 n1 c1 n2 c2 : Nat) (at_ nl : Int) (sn sv s : ByteArray) (nm vl : Nat → ByteArray) (ln : Nat → Int) (w : World)
    (h0 : n0 ≤ maxLen) (h1 : n1 ≤ maxLen) (h2 : n2 ≤ maxLen) (hsn : sn.size ≤ maxLen) (hsv : sv.size ≤ maxLen) (hs : s.size ≤ maxLen) (hnm : ∀ i, i < n0 → (nm i).size ≤ maxLen) (hvl : ∀ i, i < n2 → (vl i).size ≤ maxLen) (hat : In64 at_)
    (hc0 : Cells w A0 n0 (fun i => .string (nm i))) (hc1 : Cells w A1 n1 (fun i => .int .i64 (ln i))) (hc2 : Cells w A2 n2 (fun i => .string (vl i)))
    {u8 u9 u10 u11 u12 u13 u14 u15 u16 u17 u18 u19 u20 u21 u22 u23 u24 u25 u26 u27 u28 u29 u30 u31 u32 u33 u34 u35 u36 u37 u38 u39 u40 u41 u42 u43 u44 u45 u46 u47 u48 u49 u50 u51 u52 u53 u54 u55 u56 u57 u58 u59 u60 u61 u62 u63 u64 u65 u66 u67 u68 u69 u70 u71 u72 u73 u74 u75 u76 u77 u78 u79 u80 u81 u82 u83 u84 u85 u86 u87 u88 u89 u90 u91 u92 u93 u94 u95 u96 u97 u98 u99 u100 u101 u102 u103 u104 u105 u106 u107 u108 u109 u110 u111 u112 u113 u114 u115 u116 u117 u118 u119 u120 u121 u122 u123 u124 u125 u126 u127 u128 u129 u130 u131 u132 u133 u134 u135 u136 u137 u138 u139 u140 u141 u142 u143 u144 u145 u146 u147 u148 u149 u150 u151 u152 u153 u154 u155 u156 u157 u158 u159 u160 u161 u162 u163 u164 u165 u166 u167 u168 u169 u170 u171 u172 u173 u174 u175 u176 u177 u178 u179 u180 u181 u182 u183 u184 u185 u186 u187 u188 u189 u190 u191 u192 u193 u194 u195 u196 u197 u198 u199 u200 u201 u202 u203 u204 u205 u206 u207 u208 u209 u210 u211 u212 u213 u214 u215 u216 u217 u218 u219 u220 u221 u222 u223 u224 u225 u226 u227 u228 u229 : Value}
    (hC : ∀ (an : Nat) {u8 u9 u10 u11 u12 u13 u14 u15 u16 u17 u18 u19 u20 u21 u22 u23 u24 u25 u26 u27 u28 u29 u30 u31 u32 u33 u34 u35 u36 u37 u38 u39 u40 u41 u42 u43 u44 u45 u46 u47 u48 u49 u50 u51 u52 u53 u54 u55 u56 u57 u58 u59 u60 u61 u62 u63 u64 u65 u66 u67 u68 u69 u70 u71 u72 u73 u74 u75 u76 u77 u78 u79 u80 u81 u82 u83 u84 u85 u86 u87 u88 u89 u90 u91 u92 u93 u94 u95 u96 u97 u98 u99 u100 u101 u102 u103 u104 u105 u106 u107 u108 u109 u110 u111 u112 u113 u114 u115 u116 u117 u118 u119 u120 u121 u122 u123 u124 u125 u126 u127 u128 u129 u130 u131 u132 u133 u134 u135 u136 u137 u138 u139 u140 u141 u142 u143 u144 u145 u146 u147 u148 u149 u150 u151 u152 u153 u154 u155 u156 u157 u158 u159 u160 u161 u162 u163 u164 u165 u166 u167 u168 u169 u170 u171 u172 u173 u174 u175 u176 u177 u178 u179 u180 u181 u182 u183 u184 u185 u186 u187 u188 u189 u190 u191 u192 u193 u194 u195 u196 u197 u198 u199 u200 u201 u202 u203 u204 u205 u206 u207 u208 u209 u210 u211 u212 u213 u214 u215 u216 u217 u218 u219 u220 u221 u222 u223 u224 u225 u226 u227 u228 u229 : Value}, at_ = an → n0 ≤ 65536 → n1 = n0 → n2 = n0 → an ≤ n0 → Code.wp Try.prog C (bodyPost Try.prog Try.f5 fun e w' => e = .returned (.bool true) ∧ Below w.heap.size w w') ⟨#[.slice A0 n0 c0, .slice A1 n1 c1, .slice A2 n2 c2, .int .i64 (an : Nat), .string sn, .int .i64 nl, .string sv, .string s, u8, u9, u10, u11, u12, u13, u14, u15, u16, u17, u18, u19, u20, u21, u22, u23, u24, u25, u26, u27, u28, u29, u30, u31, u32, u33, u34, u35, u36, u37, u38, u39, u40, u41, u42, u43, u44, u45, u46, u47, u48, u49, u50, u51, u52, u53, u54, u55, u56, u57, u58, u59, u60, u61, u62, u63, u64, u65, u66, u67, u68, u69, u70, u71, u72, u73, u74, u75, u76, u77, u78, u79, u80, u81, u82, u83, u84, u85, u86, u87, u88, u89, u90, u91, u92, u93, u94, u95, u96, u97, u98, u99, u100, u101, u102, u103, u104, u105, u106, u107, u108, u109, u110, u111, u112, u113, u114, u115, u116, u117, u118, u119, u120, u121, u122, u123, u124, u125, u126, u127, u128, u129, u130, u131, u132, u133, u134, u135, u136, u137, u138, u139, u140, u141, u142, u143, u144, u145, u146, u147, u148, u149, u150, u151, u152, u153, u154, u155, u156, u157, u158, u159, u160, u161, u162, u163, u164, u165, u166, u167, u168, u169, u170, u171, u172, u173, u174, u175, u176, u177, u178, u179, u180, u181, u182, u183, u184, u185, u186, u187, u188, u189, u190, u191, u192, u193, u194, u195, u196, u197, u198, u199, u200, u201, u202, u203, u204, u205, u206, u207, u208, u209, u210, u211, u212, u213, u214, u215, u216, u217, u218, u219, u220, u221, u222, u223, u224, u225, u226, u227, u228, u229], []⟩ w) :
    Code.wp Try.prog (cutAt 6 (Try.f5.body.getD .skip) C) (bodyPost Try.prog Try.f5 fun e w' => e = .returned (.bool true) ∧ Below w.heap.size w w') ⟨#[.slice A0 n0 c0, .slice A1 n1 c1, .slice A2 n2 c2, .int .i64 at_, .string sn, .int .i64 nl, .string sv, .string s, u8, u9, u10, u11, u12, u13, u14, u15, u16, u17, u18, u19, u20, u21, u22, u23, u24, u25, u26, u27, u28, u29, u30, u31, u32, u33, u34, u35, u36, u37, u38, u39, u40, u41, u42, u43, u44, u45, u46, u47, u48, u49, u50, u51, u52, u53, u54, u55, u56, u57, u58, u59, u60, u61, u62, u63, u64, u65, u66, u67, u68, u69, u70, u71, u72, u73, u74, u75, u76, u77, u78, u79, u80, u81, u82, u83, u84, u85, u86, u87, u88, u89, u90, u91, u92, u93, u94, u95, u96, u97, u98, u99, u100, u101, u102, u103, u104, u105, u106, u107, u108, u109, u110, u111, u112, u113, u114, u115, u116, u117, u118, u119, u120, u121, u122, u123, u124, u125, u126, u127, u128, u129, u130, u131, u132, u133, u134, u135, u136, u137, u138, u139, u140, u141, u142, u143, u144, u145, u146, u147, u148, u149, u150, u151, u152, u153, u154, u155, u156, u157, u158, u159, u160, u161, u162, u163, u164, u165, u166, u167, u168, u169, u170, u171, u172, u173, u174, u175, u176, u177, u178, u179, u180, u181, u182, u183, u184, u185, u186, u187, u188, u189, u190, u191, u192, u193, u194, u195, u196, u197, u198, u199, u200, u201, u202, u203, u204, u205, u206, u207, u208, u209, u210, u211, u212, u213, u214, u215, u216, u217, u218, u219, u220, u221, u222, u223, u224, u225, u226, u227, u228, u229], []⟩ w := by
  conv => arg 2; simp only [Try.f5, Option.getD_some, cutAt]
  have HCC : Hid _ := @hC
  clear hC
  have hb6 := bytes13 A0 A1 A2 n0 c0 n1 c1 n2 c2 at_ nl s sn sv nm vl w h0 h1 h2 hs hsn hsv hnm hvl hc0 hc2
  have hb7 := fun x => big7 A0 A1 A2 n0 c0 n1 c1 n2 c2 x nm vl w h0 h1 h2 hnm hvl hc0 hc2
  unfold maxLen at h0 h1 h2 hs hsn hsv
  unfold In64 at hat
  clear hnm hvl hc0 hc1 hc2
  go_wp2_with fail
  refine hb6.mono ?_
  rintro e w' ⟨⟨b, rfl, _⟩, hw⟩
  have hw := hw.symm
  subst hw
  clear hb6
  dsimp only
  cases b
  · go_wp2
    go_ret
    exact ⟨rfl, Below.refl _ _⟩
  by_cases t0 : 1048576 < s.size
  · go_wp2
    go_ret
    exact ⟨rfl, Below.refl _ _⟩
  by_cases t01 : 1048576 < sn.size
  · go_wp2
    go_ret
    exact ⟨rfl, Below.refl _ _⟩
  by_cases t02 : 1048576 < sv.size
  · go_wp2
    go_ret
    exact ⟨rfl, Below.refl _ _⟩
  go_wp2_with fail
  refine (hb7 _).mono ?_
  rintro e w' ⟨⟨b, rfl, hbb⟩, hw⟩
  have hw := hw.symm
  subst hw
  clear hb7
  dsimp only
  cases b
  rotate_left
  · clear hbb
    go_wp2
    go_ret
    exact ⟨rfl, Below.refl _ _⟩
  obtain ⟨mb0, mb1, mb2⟩ := hbb rfl
  clear hbb
  by_cases e1 : n1 = n0
  rotate_left
  · have hb : ((n1 : Int) != (n0 : Int)) = true := by simp; omega
    go_wp2
    go_ret
    exact ⟨rfl, Below.refl _ _⟩
  by_cases e2 : n2 = n0
  rotate_left
  · have hb : ((n2 : Int) != (n0 : Int)) = true := by simp; omega
    subst e1
    go_wp2
    go_ret
    exact ⟨rfl, Below.refl _ _⟩
  subst e1
  subst e2
  by_cases t1 : at_ < 0
  · go_wp2
    go_ret
    exact ⟨rfl, Below.refl _ _⟩
  by_cases t2 : (n2 : Int) < at_
  · go_wp2
    go_ret
    exact ⟨rfl, Below.refl _ _⟩
  obtain ⟨an, rfl⟩ : ∃ an : Nat, at_ = an := ⟨at_.toNat, by omega⟩
  have han : an ≤ n2 := by omega
  go_wp2
  exact HCC.out an rfl (by omega) rfl rfl han
end Go.Proofs.Qxb6616154a
