import Derived.Test.Qxb6616154aIns1
namespace Go.Proofs.Qxb6616154a
open Go.RowKit Go.Deep Go.Joins
set_option linter.unusedVariables false

/-- What the checks read. -/
structure Fin6 (w w4 : World) (ga : Nat) (l1 l2 : List Ent) (B1 B2 : Option Addr) (e : Ent) : Prop where
  below : Below w.heap.size w w4
  h1 : HasE w4 B1 l1
  h2 : HasE w4 B2 l2
  a0 : w4.cell? ⟨ga, 0, none⟩ = some (.string e.nm)
  a1 : w4.cell? ⟨ga, 1, none⟩ = some (.int .i64 e.ln)
  a2 : w4.cell? ⟨ga, 2, none⟩ = some (.string e.vl)
  a3 : w4.cell? ⟨ga, 3, none⟩ = some (.pointer none)

theorem Fin6.later {w w4 wr : World} {ga : Nat} {l1 l2 : List Ent} {B1 B2 : Option Addr} {e : Ent} (h : Fin6 w w4 ga l1 l2 B1 B2 e) (hb : Below w4.heap.size w4 wr) : Fin6 w wr ga l1 l2 B1 B2 e := by
  have hlt : ga < w4.heap.size := World.block_lt_of_cell? w4 _ h.a0
  exact ⟨h.below.trans (hb.mono h.below.size), h.h1.below hb (Nat.le_refl _), h.h2.below hb (Nat.le_refl _), (hb.cell (by exact hlt)).trans h.a0, (hb.cell (by exact hlt)).trans h.a1, (hb.cell (by exact hlt)).trans h.a2, (hb.cell (by exact hlt)).trans h.a3⟩

theorem take_min {l : List Ent} {k a : Nat} (h : ¬ k < a) : l.take (min (k + 1) a) = l.take (min k a) := by
  rw [Nat.min_eq_right (by omega), Nat.min_eq_right (by omega)]

set_option maxRecDepth 100000 in
set_option maxHeartbeats 4000000 in
theorem phaseI2 (C : Code) (A0 : Option Addr) (n2 c0 an g1 ga gw : Nat) (nl : Int) (sn sv s : ByteArray) (nm : Nat → ByteArray) (w w2 : World) (L : List Ent) (mb0 : n2 ≤ 65536) (han : an ≤ n2)
    (hL : L.length = n2) (hat : ∀ i (h : i < L.length), L[i].nm = nm i) (hB : Begun5 w w2 g1 ga gw L (insL L an ⟨sn, nl, sv⟩) ⟨sn, nl, sv⟩)
    (hc0 : Cells w A0 n2 (fun i => .string (nm i)))
    {u1 u2 u5 u6 u8 u9 u10 u11 u12 u13 u14 u15 u16 u20 u21 u22 u23 u24 u25 u26 u27 u28 u29 u30 u31 u32 u33 u34 u35 u36 u37 u38 u39 u40 u41 u42 u43 u44 u45 u46 u47 u48 u49 u50 u51 u52 u53 u54 u55 u56 u57 u58 u59 u60 u61 u62 u63 u64 u65 u66 u67 u68 u69 u70 u71 u72 u73 u74 u75 u76 u77 u78 u79 u80 u81 u82 u83 u84 u85 u86 u87 u88 u89 u90 u91 u92 u93 u94 u95 u96 u97 u98 u99 u100 u101 u102 u103 u104 u105 u106 u107 u108 u109 u110 u111 u112 u113 u114 u115 u116 u117 u118 u119 u120 u121 u122 u123 u124 u125 u126 u127 u128 u129 u130 u131 u132 u133 u134 u135 u136 u137 u138 u139 u140 u141 u142 u143 u144 u145 u146 u147 u148 u149 u150 u151 u152 u153 u154 u155 u156 u157 u158 u159 u160 u161 u162 u163 u164 u165 u166 u167 u168 u169 u170 u171 u172 u173 u174 u175 u176 u177 u178 u179 u180 u181 u182 u183 u184 u185 u186 u187 u188 u189 u190 u191 u192 u193 u194 u195 u196 u197 u198 u199 u200 u201 u202 u203 u204 u205 u206 u207 u208 u209 u210 u211 u212 u213 u214 u215 u216 u217 u218 u219 u220 u221 u222 u223 u224 u225 u226 u227 u228 u229 : Value}
    (hC : ∀ (w4 : World) (B1 B2 : Option Addr) (m1 d1 m2 d2 mb : Nat) {u0 u1 u2 u3 u5 u6 u8 u9 u10 u11 u12 u13 u14 u15 u16 u17 u19 u20 u21 u24 u27 u28 u29 u30 u31 u32 u33 u34 u35 u36 u37 u38 u39 u40 u41 u42 u43 u44 u45 u46 u47 u48 u49 u50 u51 u52 u53 u54 u55 u56 u57 u58 u59 u60 u61 u62 u63 u64 u65 u66 u67 u68 u69 u70 u71 u72 u73 u74 u75 u76 u77 u78 u79 u80 u81 u82 u83 u84 u85 u86 u87 u88 u89 u90 u91 u92 u93 u94 u95 u96 u97 u98 u99 u100 u101 u102 u103 u104 u105 u106 u107 u108 u109 u110 u111 u112 u113 u114 u115 u116 u117 u118 u119 u120 u121 u122 u123 u124 u125 u126 u127 u128 u129 u130 u131 u132 u133 u134 u135 u136 u137 u138 u139 u140 u141 u142 u143 u144 u145 u146 u147 u148 u149 u150 u151 u152 u153 u154 u155 u156 u157 u158 u159 u160 u161 u162 u163 u164 u165 u166 u167 u168 u169 u170 u171 u172 u173 u174 u175 u176 u177 u178 u179 u180 u181 u182 u183 u184 u185 u186 u187 u188 u189 u190 u191 u192 u193 u194 u195 u196 u197 u198 u199 u200 u201 u202 u203 u204 u205 u206 u207 u208 u209 u210 u211 u212 u213 u214 u215 u216 u217 u218 u219 u220 u221 u222 u223 u224 u225 u226 u227 u228 u229 : Value}, (vals s L).length = m1 → (vals s (insL L an ⟨sn, nl, sv⟩)).length = m2 → (vals s (L.take an)).length = mb → m1 ≤ 65536 → m2 ≤ 65537 →
      Fin6 w w4 ga (vals s L) (vals s (insL L an ⟨sn, nl, sv⟩)) B1 B2 ⟨sn, nl, sv⟩ → Code.wp Try.prog C (bodyPost Try.prog Try.f5 fun e w' => e = .returned (.bool true) ∧ Below w.heap.size w w') ⟨#[u0, u1, u2, u3, .string sn, u5, u6, .string s, u8, u9, u10, u11, u12, u13, u14, u15, u16, u17, .pointer (some ⟨ga, 0, none⟩), u19, u20, u21, .int .i64 (m1 : Nat), .int .i64 (mb : Nat), u24, .slice B1 m1 d1, .slice B2 m2 d2, u27, u28, u29, u30, u31, u32, u33, u34, u35, u36, u37, u38, u39, u40, u41, u42, u43, u44, u45, u46, u47, u48, u49, u50, u51, u52, u53, u54, u55, u56, u57, u58, u59, u60, u61, u62, u63, u64, u65, u66, u67, u68, u69, u70, u71, u72, u73, u74, u75, u76, u77, u78, u79, u80, u81, u82, u83, u84, u85, u86, u87, u88, u89, u90, u91, u92, u93, u94, u95, u96, u97, u98, u99, u100, u101, u102, u103, u104, u105, u106, u107, u108, u109, u110, u111, u112, u113, u114, u115, u116, u117, u118, u119, u120, u121, u122, u123, u124, u125, u126, u127, u128, u129, u130, u131, u132, u133, u134, u135, u136, u137, u138, u139, u140, u141, u142, u143, u144, u145, u146, u147, u148, u149, u150, u151, u152, u153, u154, u155, u156, u157, u158, u159, u160, u161, u162, u163, u164, u165, u166, u167, u168, u169, u170, u171, u172, u173, u174, u175, u176, u177, u178, u179, u180, u181, u182, u183, u184, u185, u186, u187, u188, u189, u190, u191, u192, u193, u194, u195, u196, u197, u198, u199, u200, u201, u202, u203, u204, u205, u206, u207, u208, u209, u210, u211, u212, u213, u214, u215, u216, u217, u218, u219, u220, u221, u222, u223, u224, u225, u226, u227, u228, u229], []⟩ w4) :
    Code.wp Try.prog (cutAt 4 (dropAt 12 (Try.f5.body.getD .skip)) C) (bodyPost Try.prog Try.f5 fun e w' => e = .returned (.bool true) ∧ Below w.heap.size w w') ⟨#[.slice A0 n2 c0, u1, u2, .int .i64 (an : Nat), .string sn, u5, u6, .string s, u8, u9, u10, u11, u12, u13, u14, u15, u16, .slice (some ⟨g1, 0, none⟩) n2 n2, .pointer (some ⟨ga, 0, none⟩), .slice (some ⟨gw, 0, none⟩) (n2 + 1) (n2 + 1), u20, u21, u22, u23, u24, u25, u26, u27, u28, u29, u30, u31, u32, u33, u34, u35, u36, u37, u38, u39, u40, u41, u42, u43, u44, u45, u46, u47, u48, u49, u50, u51, u52, u53, u54, u55, u56, u57, u58, u59, u60, u61, u62, u63, u64, u65, u66, u67, u68, u69, u70, u71, u72, u73, u74, u75, u76, u77, u78, u79, u80, u81, u82, u83, u84, u85, u86, u87, u88, u89, u90, u91, u92, u93, u94, u95, u96, u97, u98, u99, u100, u101, u102, u103, u104, u105, u106, u107, u108, u109, u110, u111, u112, u113, u114, u115, u116, u117, u118, u119, u120, u121, u122, u123, u124, u125, u126, u127, u128, u129, u130, u131, u132, u133, u134, u135, u136, u137, u138, u139, u140, u141, u142, u143, u144, u145, u146, u147, u148, u149, u150, u151, u152, u153, u154, u155, u156, u157, u158, u159, u160, u161, u162, u163, u164, u165, u166, u167, u168, u169, u170, u171, u172, u173, u174, u175, u176, u177, u178, u179, u180, u181, u182, u183, u184, u185, u186, u187, u188, u189, u190, u191, u192, u193, u194, u195, u196, u197, u198, u199, u200, u201, u202, u203, u204, u205, u206, u207, u208, u209, u210, u211, u212, u213, u214, u215, u216, u217, u218, u219, u220, u221, u222, u223, u224, u225, u226, u227, u228, u229], []⟩ w2 := by
  conv => arg 2; simp only [Try.f5, Option.getD_some, cutAt, dropAt]
  have HCC : Hid _ := @hC
  have HB : Hid (Begun5 w w2 g1 ga gw L (insL L an ⟨sn, nl, sv⟩) ⟨sn, nl, sv⟩) := hB
  have HC : Hid (Cells w2 A0 n2 (fun i => .string (nm i))) := hc0.below hB.below (Nat.le_refl _)
  have HA : Hid (∀ i (h : i < L.length), L[i].nm = nm i) := hat
  have HL : Hid (L.length = n2) := hL
  clear hC hB hc0 hat hL
  go_wp2
  go_loop [22, 23, 24] (fun z y i => ∃ k : Nat, k ≤ n2 ∧ i = .int .i64 k ∧ z = .int .i64 ((vals s (L.take k)).length : Nat) ∧ y = .int .i64 ((vals s (L.take (min k an))).length : Nat)) (fun _ _ i => n2 - (intOf i).toNat)
  case atStart => exact ⟨0, Nat.zero_le _, rfl, rfl, by rw [Nat.zero_min]; rfl⟩
  case round =>
    obtain ⟨k, hk, rfl, rfl, rfl⟩ := hrel
    obtain ⟨q, hq1⟩ : ∃ q, (vals s (L.take k)).length = q := ⟨_, rfl⟩
    obtain ⟨p, hp1⟩ : ∃ p, (vals s (L.take (min k an))).length = p := ⟨_, rfl⟩
    rw [hq1, hp1]
    have hqk : q ≤ k := by
      have h1 := vals_len s (L.take k)
      have h2 : (L.take k).length ≤ k := List.length_take_le _ _
      omega
    have hpk : p ≤ k := by
      have h1 := vals_len s (L.take (min k an))
      have h2 : (L.take (min k an)).length ≤ min k an := List.length_take_le _ _
      omega
    have HQ : Hid ((vals s (L.take k)).length = q) := hq1
    have HP : Hid ((vals s (L.take (min k an))).length = p) := hp1
    clear hq1 hp1
    by_cases hlt : k < n2
    · have hkl : k < L.length := by rw [HL.out]; exact hlt
      obtain ⟨b, off, rfl, _, hcc⟩ := HC.out.lit (by omega)
      have hck := hcc k hlt
      clear hcc HC HB HCC
      cases hq2 : (nm k).toList == s.toList with
      | true =>
        have hyes := vals_snoc_yes (s := s) hkl (by unfold isN; rw [HA.out k hkl]; exact hq2)
        have HV : Hid ((vals s (L.take (k + 1))).length = q + 1) := by
          show (vals s (L.take (k + 1))).length = q + 1
          rw [hyes, List.length_append, HQ.out]; rfl
        by_cases hka : k < an
        · have HPV : Hid ((vals s (L.take (min (k + 1) an))).length = p + 1) := by
            show (vals s (L.take (min (k + 1) an))).length = p + 1
            have h := HP.out
            rw [Nat.min_eq_left (by omega)] at h
            rw [Nat.min_eq_left (by omega), hyes, List.length_append, h]; rfl
          clear hyes
          go_wp2
          go_round
          case rel => exact ⟨k + 1, by omega, by go_num, by rw [HV.out]; go_num, by rw [HPV.out]; go_num⟩
          case measure => simp [intOf]; omega
        · have HPV : Hid ((vals s (L.take (min (k + 1) an))).length = p) := by
            show (vals s (L.take (min (k + 1) an))).length = p
            rw [take_min hka]; exact HP.out
          clear hyes
          go_wp2
          go_round
          case rel => exact ⟨k + 1, by omega, by go_num, by rw [HV.out]; go_num, by rw [HPV.out]⟩
          case measure => simp [intOf]; omega
      | false =>
        have hno := vals_snoc_no (s := s) hkl (by unfold isN; rw [HA.out k hkl]; exact hq2)
        have HV : Hid ((vals s (L.take (k + 1))).length = q) := by
          show (vals s (L.take (k + 1))).length = q
          rw [hno, HQ.out]
        have HPV : Hid ((vals s (L.take (min (k + 1) an))).length = p) := by
          show (vals s (L.take (min (k + 1) an))).length = p
          by_cases hka : k < an
          · have h := HP.out
            rw [Nat.min_eq_left (by omega)] at h
            rw [Nat.min_eq_left (by omega), hno]; exact h
          · rw [take_min hka]; exact HP.out
        clear hno
        go_wp2
        go_round
        case rel => exact ⟨k + 1, by omega, by go_num, by rw [HV.out], by rw [HPV.out]⟩
        case measure => simp [intOf]; omega
    · have eq : (vals s L).length = q := by rw [← HQ.out, List.take_of_length_le (by rw [HL.out]; omega)]
      have ep : (vals s (L.take an)).length = p := by rw [← HP.out, Nat.min_eq_right (by omega)]
      have HEQ : Hid ((vals s L).length = q) := eq
      have HEP : Hid ((vals s (L.take an)).length = p) := ep
      clear HC HA HQ HP eq ep
      go_wp2_with fail
      refine (values9 (some ⟨g1, 0, none⟩) n2 L s w2 n2 HL.out (by omega) HB.out.hl).mono ?_
      rintro e w3 ⟨⟨v1, rfl, ho1, _⟩, hb3⟩
      obtain ⟨B1, d1, rfl, _, hh1, _, _⟩ := ho1.has
      rw [HEQ.out]
      have HH1 : Hid (HasE w3 B1 (vals s L)) := hh1
      have HB3 : Hid (Below w2.heap.size w2 w3) := hb3
      clear ho1 hb3 hh1
      dsimp only
      go_wp2_with fail
      have hb3' := HB.out.later HB3.out
      refine (values9 (some ⟨gw, 0, none⟩) (n2 + 1) (insL L an ⟨sn, nl, sv⟩) s w3 (n2 + 1) (by rw [insL_length, HL.out]) (by omega) hb3'.hw).mono ?_
      rintro e w4 ⟨⟨v2, rfl, ho2, _⟩, hb4⟩
      obtain ⟨B2, d2, rfl, _, hh2, _, _⟩ := ho2.has
      have hb4' := hb3'.later hb4
      have HF : Hid (Fin6 w w4 ga (vals s L) (vals s (insL L an ⟨sn, nl, sv⟩)) B1 B2 ⟨sn, nl, sv⟩) := ⟨hb4'.below, HH1.out.below hb4 (Nat.le_refl _), hh2, hb4'.a0, hb4'.a1, hb4'.a2, hb4'.a3⟩
      obtain ⟨m2, hm2⟩ : ∃ m2, (vals s (insL L an ⟨sn, nl, sv⟩)).length = m2 := ⟨_, rfl⟩
      have hm2b : m2 ≤ n2 + 1 := by have := vals_len s (insL L an ⟨sn, nl, sv⟩); rw [insL_length, HL.out, hm2] at this; exact this
      rw [hm2]
      have HM2 : Hid ((vals s (insL L an ⟨sn, nl, sv⟩)).length = m2) := hm2
      clear ho2 hb4 hh2 hb3' hb4' hm2 HH1 HB3 HB
      dsimp only
      go_wp2
      exact HCC.out w4 B1 B2 q d1 m2 d2 p HEQ.out HM2.out HEP.out (by omega) (by omega) HF.out
end Go.Proofs.Qxb6616154a
