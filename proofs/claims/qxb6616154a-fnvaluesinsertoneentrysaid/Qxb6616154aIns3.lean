import Derived.Test.Qxb6616154aIns2
namespace Go.Proofs.Qxb6616154a
open Go.RowKit Go.Deep Go.Joins
set_option linter.unusedVariables false

theorem vals_cons (s : ByteArray) (e : Ent) (l : List Ent) : vals s (e :: l) = if isN s e then e :: vals s l else vals s l := by
  unfold vals; rw [List.filter_cons]
theorem vals_ins_no {s : ByteArray} {L : List Ent} {a : Nat} {e : Ent} (h : isN s e = false) : vals s (insL L a e) = vals s L := by
  unfold insL
  rw [vals_append, vals_cons, h]
  simp only [Bool.false_eq_true, if_false]
  rw [← vals_append, List.take_append_drop]
theorem vals_ins_yes {s : ByteArray} {L : List Ent} {a : Nat} {e : Ent} (h : isN s e = true) : vals s (insL L a e) = insL (vals s L) (vals s (L.take a)).length e := by
  have hs : vals s L = vals s (L.take a) ++ vals s (L.drop a) := by rw [← vals_append, List.take_append_drop]
  unfold insL
  rw [vals_append, vals_cons, h, hs]
  simp

theorem below_call2 {w4 wr w' : World} (h : Below w4.heap.size w4 wr) (hs : w4.heap.size ≤ wr.heap.size) (hb : Below (wr.drew).heap.size wr.drew w') : Below w4.heap.size w4 w' :=
  h.drew.trans (hb.mono (by exact hs))

attribute [local go_sem ↓] Go.wp_at_zero Go.wp_at_succ

set_option maxRecDepth 100000 in
set_option maxHeartbeats 4000000 in
theorem phaseI3 (w w4 : World) (B1 B2 : Option Addr) (m1 d1 m2 d2 mb ga an : Nat) (nl : Int) (sn sv s : ByteArray) (L : List Ent)
    (hm1 : (vals s L).length = m1) (hm2 : (vals s (insL L an ⟨sn, nl, sv⟩)).length = m2) (hmb : (vals s (L.take an)).length = mb) (hb1 : m1 ≤ 65536) (hb2 : m2 ≤ 65537)
    (hF : Fin6 w w4 ga (vals s L) (vals s (insL L an ⟨sn, nl, sv⟩)) B1 B2 ⟨sn, nl, sv⟩)
    {u0 u1 u2 u3 u5 u6 u8 u9 u10 u11 u12 u13 u14 u15 u16 u17 u19 u20 u21 u24 u27 u28 u29 u30 u31 u32 u33 u34 u35 u36 u37 u38 u39 u40 u41 u42 u43 u44 u45 u46 u47 u48 u49 u50 u51 u52 u53 u54 u55 u56 u57 u58 u59 u60 u61 u62 u63 u64 u65 u66 u67 u68 u69 u70 u71 u72 u73 u74 u75 u76 u77 u78 u79 u80 u81 u82 u83 u84 u85 u86 u87 u88 u89 u90 u91 u92 u93 u94 u95 u96 u97 u98 u99 u100 u101 u102 u103 u104 u105 u106 u107 u108 u109 u110 u111 u112 u113 u114 u115 u116 u117 u118 u119 u120 u121 u122 u123 u124 u125 u126 u127 u128 u129 u130 u131 u132 u133 u134 u135 u136 u137 u138 u139 u140 u141 u142 u143 u144 u145 u146 u147 u148 u149 u150 u151 u152 u153 u154 u155 u156 u157 u158 u159 u160 u161 u162 u163 u164 u165 u166 u167 u168 u169 u170 u171 u172 u173 u174 u175 u176 u177 u178 u179 u180 u181 u182 u183 u184 u185 u186 u187 u188 u189 u190 u191 u192 u193 u194 u195 u196 u197 u198 u199 u200 u201 u202 u203 u204 u205 u206 u207 u208 u209 u210 u211 u212 u213 u214 u215 u216 u217 u218 u219 u220 u221 u222 u223 u224 u225 u226 u227 u228 u229 : Value} :
    Code.wp Try.prog (dropAt 16 (Try.f5.body.getD .skip)) (bodyPost Try.prog Try.f5 fun e w' => e = .returned (.bool true) ∧ Below w.heap.size w w') ⟨#[u0, u1, u2, u3, .string sn, u5, u6, .string s, u8, u9, u10, u11, u12, u13, u14, u15, u16, u17, .pointer (some ⟨ga, 0, none⟩), u19, u20, u21, .int .i64 (m1 : Nat), .int .i64 (mb : Nat), u24, .slice B1 m1 d1, .slice B2 m2 d2, u27, u28, u29, u30, u31, u32, u33, u34, u35, u36, u37, u38, u39, u40, u41, u42, u43, u44, u45, u46, u47, u48, u49, u50, u51, u52, u53, u54, u55, u56, u57, u58, u59, u60, u61, u62, u63, u64, u65, u66, u67, u68, u69, u70, u71, u72, u73, u74, u75, u76, u77, u78, u79, u80, u81, u82, u83, u84, u85, u86, u87, u88, u89, u90, u91, u92, u93, u94, u95, u96, u97, u98, u99, u100, u101, u102, u103, u104, u105, u106, u107, u108, u109, u110, u111, u112, u113, u114, u115, u116, u117, u118, u119, u120, u121, u122, u123, u124, u125, u126, u127, u128, u129, u130, u131, u132, u133, u134, u135, u136, u137, u138, u139, u140, u141, u142, u143, u144, u145, u146, u147, u148, u149, u150, u151, u152, u153, u154, u155, u156, u157, u158, u159, u160, u161, u162, u163, u164, u165, u166, u167, u168, u169, u170, u171, u172, u173, u174, u175, u176, u177, u178, u179, u180, u181, u182, u183, u184, u185, u186, u187, u188, u189, u190, u191, u192, u193, u194, u195, u196, u197, u198, u199, u200, u201, u202, u203, u204, u205, u206, u207, u208, u209, u210, u211, u212, u213, u214, u215, u216, u217, u218, u219, u220, u221, u222, u223, u224, u225, u226, u227, u228, u229], []⟩ w4 := by
  conv => arg 2; simp only [Try.f5, Option.getD_some, dropAt]
  have hmbm : mb ≤ m1 := by
    have hs : vals s L = vals s (L.take an) ++ vals s (L.drop an) := by rw [← vals_append, List.take_append_drop]
    rw [← hm1, ← hmb, hs, List.length_append]; omega
  obtain ⟨V, hV⟩ : ∃ V, vals s L = V := ⟨_, rfl⟩
  obtain ⟨VW, hVW⟩ : ∃ VW, vals s (insL L an ⟨sn, nl, sv⟩) = VW := ⟨_, rfl⟩
  have hno : isN s ⟨sn, nl, sv⟩ = false → VW = V := fun h => by rw [← hVW, ← hV]; exact vals_ins_no h
  have hyes : isN s ⟨sn, nl, sv⟩ = true → VW = insL V mb ⟨sn, nl, sv⟩ := fun h => by rw [← hVW, ← hV, ← hmb]; exact vals_ins_yes h
  have hnamed : ∀ k (h : k < V.length), (V[k].nm.toList == s.toList) = true := by subst hV; intro k h; exact vals_named h
  rw [hV] at hm1 hF
  rw [hVW] at hm2 hF
  have HF : Hid (Fin6 w w4 ga V VW B1 B2 ⟨sn, nl, sv⟩) := hF
  have HM1 : Hid (V.length = m1) := hm1
  have HM2 : Hid (VW.length = m2) := hm2
  have HNo : Hid (isN s ⟨sn, nl, sv⟩ = false → VW = V) := hno
  have HYes : Hid (isN s ⟨sn, nl, sv⟩ = true → VW = insL V mb ⟨sn, nl, sv⟩) := hyes
  have HNm : Hid (∀ k (h : k < V.length), (V[k].nm.toList == s.toList) = true) := hnamed
  clear hF hm1 hm2 hno hyes hnamed hV hVW hmb
  go_wp2
  go_loop [27] (fun i => ∃ k : Nat, k ≤ m1 ∧ i = .int .i64 k) (fun i => m1 - (intOf i).toNat)
  case atStart => exact ⟨0, Nat.zero_le _, rfl⟩
  case round =>
    obtain ⟨k, hk, rfl⟩ := hrel
    by_cases hlt : k < m1
    · have hkv : k < V.length := by rw [HM1.out]; exact hlt
      obtain ⟨b, off, rfl, lb, hcc⟩ := HF.out.h1.lit (by omega)
      have g0 := (hcc k hkv).1
      have gn := HNm.out k hkv
      obtain ⟨e, he⟩ : ∃ e, V[k] = e := ⟨_, rfl⟩
      rw [he] at g0 gn
      have gn2 : (e.nm.toList != s.toList) = false := by simp only [bne, gn]; rfl
      clear hcc HF HM1 HM2 HNo HYes HNm he hkv
      go_wp2
      go_round
      case rel => exact ⟨k + 1, by omega, by go_num⟩
      case measure => simp [intOf]; omega
    · clear HNm
      cases hq : sn.toList == s.toList with
      | false =>
        have hq2 : (sn.toList != s.toList) = true := by simp only [bne, hq]; rfl
        have hvv : VW = V := HNo.out hq
        subst hvv
        obtain rfl : m1 = m2 := by rw [← HM1.out, ← HM2.out]
        clear HNo HYes
        go_wp2
        go_loopw [28] (fun i wr => ∃ j : Nat, j ≤ m1 ∧ i = .int .i64 j ∧ Below w4.heap.size w4 wr) (fun i _ => m1 - (intOf i).toNat)
        case atStart => exact ⟨0, Nat.zero_le _, rfl, Below.refl _ _⟩
        case round =>
          obtain ⟨j, hj, rfl, hbl⟩ := hrel
          have hG := HF.out.later hbl
          have HB : Hid (Below w4.heap.size w4 wr) := hbl
          have hsz := hbl.size
          clear hbl
          by_cases hlt2 : j < m1
          · have hkv : j < VW.length := by rw [HM1.out]; exact hlt2
            obtain ⟨b, off, rfl, lb, hcc⟩ := hG.h1.lit (by omega)
            obtain ⟨g0, g1, g2, g3⟩ := hcc j hkv
            obtain ⟨b2, off2, rfl, lb2, hcc2⟩ := hG.h2.lit (by omega)
            obtain ⟨p0, p1, p2, p3⟩ := hcc2 j hkv
            obtain ⟨e, he⟩ : ∃ e, VW[j] = e := ⟨_, rfl⟩
            rw [he] at g0 g1 g2 p0 p1 p2
            clear hcc hcc2 hG HF HM1 HM2 he hkv
            go_wp2
            go_region_with (go_at_call 10; refine (same10 e.nm e.ln e.vl _).mono ?_; rintro e' w' ⟨rfl, hb'⟩; dsimp only; have HB2 : Hid _ := hb'; clear hb')
            all_goals
              go_wp2
              go_roundw
              case rel => exact ⟨j + 1, by omega, by go_num, below_call2 HB.out hsz HB2.out⟩
              case measure => simp [intOf]; omega
          · have HBW : Hid (Below w.heap.size w wr) := hG.below
            clear hG
            go_wp2
            go_ret
            exact ⟨rfl, HBW.out⟩
      | true =>
        have hq2 : (sn.toList != s.toList) = false := by simp only [bne, hq]; rfl
        have hvv : VW = insL V mb ⟨sn, nl, sv⟩ := HYes.out hq
        have hm21 : m2 = m1 + 1 := by rw [← HM2.out, hvv, insL_length, HM1.out]
        have HVV : Hid (VW = insL V mb ⟨sn, nl, sv⟩) := hvv
        subst hm21
        clear HNo HYes hvv
        go_wp2
        go_loopw [29] (fun i wr => ∃ j : Nat, j ≤ m1 + 1 ∧ i = .int .i64 j ∧ Below w4.heap.size w4 wr) (fun i _ => m1 + 1 - (intOf i).toNat)
        case atStart => exact ⟨0, Nat.zero_le _, rfl, Below.refl _ _⟩
        case round =>
          obtain ⟨j, hj, rfl, hbl⟩ := hrel
          have hG := HF.out.later hbl
          have HB : Hid (Below w4.heap.size w4 wr) := hbl
          have hsz := hbl.size
          clear hbl
          by_cases hlt2 : j < m1 + 1
          · have hkv : j < VW.length := by rw [HM2.out]; exact hlt2
            obtain ⟨b, off, rfl, lb, hcc⟩ := hG.h2.lit (by omega)
            obtain ⟨P0, P1, P2, P3⟩ := hcc j hkv
            obtain ⟨e, he⟩ : ∃ e, VW[j] = e := ⟨_, rfl⟩
            rw [he] at P0 P1 P2
            have f0 : ∀ o, (wr.alloc o).cell? ⟨b, off + j * 4, none⟩ = some (.string e.nm) := fun o => (World.cell?_alloc_lt wr _ _ (by exact lb)).trans P0
            have f1 : ∀ o, (wr.alloc o).cell? ⟨b, off + j * 4 + 1, none⟩ = some (.int .i64 e.ln) := fun o => (World.cell?_alloc_lt wr _ _ (by exact lb)).trans P1
            have f2 : ∀ o, (wr.alloc o).cell? ⟨b, off + j * 4 + 2, none⟩ = some (.string e.vl) := fun o => (World.cell?_alloc_lt wr _ _ (by exact lb)).trans P2
            have f3 : ∀ o, (wr.alloc o).cell? ⟨b, off + j * 4 + 3, none⟩ = some (.pointer none) := fun o => (World.cell?_alloc_lt wr _ _ (by exact lb)).trans P3
            clear P0 P1 P2 P3 hcc
            by_cases hj1 : j < mb
            · have hk3 : j < V.length := by rw [HM1.out]; omega
              have he2 : V[j] = e := by
                rw [← he]; simp only [HVV.out]; rw [insL_lt V mb _ j hj1 hk3]
              obtain ⟨b2, off2, rfl, lb2, hcc2⟩ := hG.h1.lit (by omega)
              obtain ⟨P0, P1, P2, P3⟩ := hcc2 j hk3
              rw [he2] at P0 P1 P2
              have q0 : ∀ o, (wr.alloc o).cell? ⟨b2, off2 + j * 4, none⟩ = some (.string e.nm) := fun o => (World.cell?_alloc_lt wr _ _ (by exact lb2)).trans P0
              have q1 : ∀ o, (wr.alloc o).cell? ⟨b2, off2 + j * 4 + 1, none⟩ = some (.int .i64 e.ln) := fun o => (World.cell?_alloc_lt wr _ _ (by exact lb2)).trans P1
              have q2 : ∀ o, (wr.alloc o).cell? ⟨b2, off2 + j * 4 + 2, none⟩ = some (.string e.vl) := fun o => (World.cell?_alloc_lt wr _ _ (by exact lb2)).trans P2
              have q3 : ∀ o, (wr.alloc o).cell? ⟨b2, off2 + j * 4 + 3, none⟩ = some (.pointer none) := fun o => (World.cell?_alloc_lt wr _ _ (by exact lb2)).trans P3
              have hj3 : j < m1 := by omega
              clear hcc2 hG HF HM1 HM2 HVV he he2 hkv hk3 P0 P1 P2 P3
              go_wp2
              go_region_with (go_at_call 10; refine (same10 e.nm e.ln e.vl _).mono ?_; rintro e' w' ⟨rfl, hb'⟩; dsimp only; have HB2 : Hid _ := hb'; clear hb')
              all_goals
                go_wp2
                go_roundw
                case rel => exact ⟨j + 1, by omega, by go_num, below_call HB.out hsz HB2.out⟩
                case measure => simp [intOf]; omega
            · by_cases hj2 : j = mb
              · have he2 : e = ⟨sn, nl, sv⟩ := by
                  rw [← he]; simp only [HVV.out]; subst hj2; rw [insL_at V j _ (by rw [HM1.out]; omega)]
                have P0 := hG.a0
                have P1 := hG.a1
                have P2 := hG.a2
                have P3 := hG.a3
                rw [← he2] at P0 P1 P2
                have lb2 : ga < wr.heap.size := World.block_lt_of_cell? wr _ P0
                have q0 : ∀ o, (wr.alloc o).cell? ⟨ga, 0, none⟩ = some (.string e.nm) := fun o => (World.cell?_alloc_lt wr _ _ (by exact lb2)).trans P0
                have q1 : ∀ o, (wr.alloc o).cell? ⟨ga, 1, none⟩ = some (.int .i64 e.ln) := fun o => (World.cell?_alloc_lt wr _ _ (by exact lb2)).trans P1
                have q2 : ∀ o, (wr.alloc o).cell? ⟨ga, 2, none⟩ = some (.string e.vl) := fun o => (World.cell?_alloc_lt wr _ _ (by exact lb2)).trans P2
                have q3 : ∀ o, (wr.alloc o).cell? ⟨ga, 3, none⟩ = some (.pointer none) := fun o => (World.cell?_alloc_lt wr _ _ (by exact lb2)).trans P3
                have hbe : ((j : Int) == (mb : Int)) = true := by simp; omega
                clear hG HF HM1 HM2 HVV he he2 hkv P0 P1 P2 P3 hj2
                go_wp2
                go_region_with (go_at_call 10; refine (same10 e.nm e.ln e.vl _).mono ?_; rintro e' w' ⟨rfl, hb'⟩; dsimp only; have HB2 : Hid _ := hb'; clear hb')
                all_goals
                  go_wp2
                  go_roundw
                  case rel => exact ⟨j + 1, by omega, by go_num, below_call HB.out hsz HB2.out⟩
                  case measure => simp [intOf]; omega
              · obtain ⟨j', rfl⟩ : ∃ j', j = j' + 1 := ⟨j - 1, by omega⟩
                have hk3 : j' < V.length := by rw [HM1.out]; omega
                have he2 : V[j'] = e := by
                  rw [← he]; simp only [HVV.out]; rw [insL_gt V mb _ j' (by omega) hk3]
                obtain ⟨b2, off2, rfl, lb2, hcc2⟩ := hG.h1.lit (by omega)
                obtain ⟨P0, P1, P2, P3⟩ := hcc2 j' hk3
                rw [he2] at P0 P1 P2
                have q0 : ∀ o, (wr.alloc o).cell? ⟨b2, off2 + j' * 4, none⟩ = some (.string e.nm) := fun o => (World.cell?_alloc_lt wr _ _ (by exact lb2)).trans P0
                have q1 : ∀ o, (wr.alloc o).cell? ⟨b2, off2 + j' * 4 + 1, none⟩ = some (.int .i64 e.ln) := fun o => (World.cell?_alloc_lt wr _ _ (by exact lb2)).trans P1
                have q2 : ∀ o, (wr.alloc o).cell? ⟨b2, off2 + j' * 4 + 2, none⟩ = some (.string e.vl) := fun o => (World.cell?_alloc_lt wr _ _ (by exact lb2)).trans P2
                have q3 : ∀ o, (wr.alloc o).cell? ⟨b2, off2 + j' * 4 + 3, none⟩ = some (.pointer none) := fun o => (World.cell?_alloc_lt wr _ _ (by exact lb2)).trans P3
                have hbe : (((j' : Int) + 1) == (mb : Int)) = false := by simp; omega
                have hj3 : j' < m1 := by omega
                clear hcc2 hG HF HM1 HM2 HVV he he2 hkv hk3 P0 P1 P2 P3 hj2
                go_wp2
                go_region_with (go_at_call 10; refine (same10 e.nm e.ln e.vl _).mono ?_; rintro e' w' ⟨rfl, hb'⟩; dsimp only; have HB2 : Hid _ := hb'; clear hb')
                all_goals
                  go_wp2
                  go_roundw
                  case rel => exact ⟨j' + 1 + 1, by omega, by go_num, below_call HB.out hsz HB2.out⟩
                  case measure => simp [intOf]; omega
          · have HBW : Hid (Below w.heap.size w wr) := hG.below
            clear hG
            go_wp2
            go_ret
            exact ⟨rfl, HBW.out⟩
end Go.Proofs.Qxb6616154a
