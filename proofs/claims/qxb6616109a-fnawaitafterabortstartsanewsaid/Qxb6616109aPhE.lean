import Derived.Test.Qxb6616109aPhD
namespace Go.Proofs.Qxb6616109a
open Go.RowKit Go.Deep Go.Joins
set_option linter.unusedVariables false

set_option maxHeartbeats 4000000 in
set_option maxRecDepth 100000 in
theorem phaseE (w w6 w7 : World) (gW hi : Nat) (A1 A2 A3 : Option Addr) (n m c1 c2 c3 : Nat) (Ab Ag : Nat → Option Addr) (Cb Cg Lz Lf : Nat → Nat) (Zf Ff : Nat → Nat → Int) (la : Nat → Int) (P : Nat → Nat → Nat) (ow tx : Nat → Int) (ab : Nat → Bool)
    (hn : n ≤ 4096) (hm : m ≤ 4096) (hz : ∀ r, r < n → Lf r ≤ 1048576) (hE : Ends w w6 w.heap.size gW hi n Ab Ag Cb Cg Lz Lf Zf Ff la)
    (hc1 : Cells w A1 m (fun i => .int .i64 (tx i))) (hc2 : Cells w A2 m (fun i => .int .i64 (ow i))) (hc3 : Cells w A3 m (fun i => .bool (ab i))) (how : ∀ i, i < m → 0 ≤ ow i ∧ ow i < n)
    (hskip : ∀ k, k < m → (ab k = true ∨ (k : Int) < la (ow k).toNat) → ∀ o, o < n → P (k + 1) o = P k o)
    (hstep : ∀ k, k < m → ab k = false → ¬ (k : Int) < la (ow k).toNat → P k (ow k).toNat < Lf (ow k).toNat ∧ Ff (ow k).toNat (P k (ow k).toNat) = tx k ∧ ∀ o, o < n → P (k + 1) o = if o = (ow k).toNat then P k o + 1 else P k o)
    (hend : ∀ o, o < n → P m o = Lf o) (hP0 : PosIs w6 w7 n (fun o => (P 0 o : Int)))
    {u0 u4 u5 u6 u7 u8 u9 u10 u11 u14 u15 u16 u17 u20 u21 u22 u23 u24 u25 u26 u27 u28 u29 u30 u31 u32 u33 u34 u35 u36 u37 u38 u39 u40 u41 u42 u43 u44 u45 u46 u47 u48 u49 u50 u51 u52 u53 u54 u55 u56 u57 u58 u59 u60 u61 u62 u63 u64 u65 u66 u67 u68 u69 u70 u71 u72 u73 u74 u75 u76 u77 u78 u79 u80 u81 u82 u83 u84 u85 u86 u87 u88 u89 u90 u91 u92 u93 u94 u95 u96 u97 u98 u99 u100 u101 u102 u103 u104 u105 u106 u107 u108 u109 u110 u111 u112 u113 u114 u115 u116 u117 u118 u119 u120 u121 u122 u123 u124 u125 u126 u127 u128 u129 u130 u131 u132 u133 u134 u135 u136 u137 u138 u139 u140 u141 u142 u143 u144 u145 u146 u147 u148 u149 u150 u151 u152 u153 u154 u155 u156 u157 u158 u159 u160 u161 u162 u163 u164 u165 u166 u167 u168 u169 u170 u171 u172 u173 u174 u175 u176 u177 u178 u179 u180 u181 u182 u183 u184 u185 u186 u187 u188 u189 u190 u191 u192 u193 u194 u195 u196 u197 u198 u199 u200 u201 u202 u203 u204 u205 u206 u207 u208 u209 u210 u211 u212 u213 u214 u215 u216 u217 u218 u219 u220 u221 u222 u223 u224 u225 u226 u227 u228 u229 u230 u231 u232 u233 u234 u235 u236 u237 u238 u239 u240 u241 u242 u243 u244 u245 u246 u247 u248 u249 u250 u251 u252 u253 u254 u255 u256 u257 u258 u259 u260 u261 u262 u263 u264 u265 u266 u267 u268 u269 u270 u271 u272 u273 u274 u275 u276 u277 u278 u279 u280 u281 u282 u283 u284 u285 u286 u287 u288 u289 u290 u291 u292 u293 u294 u295 u296 u297 u298 u299 u300 u301 u302 u303 u304 u305 : Value} :
    Code.wp Try.prog (dropAt 18 (Try.f5.body.getD .skip)) (bodyPost Try.prog Try.f5 fun e w' => e = .returned (.bool true) ∧ Below w.heap.size w w') ⟨#[u0, .slice A1 m c1, .slice A2 m c2, .slice A3 m c3, u4, u5, u6, u7, u8, u9, u10, u11, .slice (some ⟨w.heap.size, 0, none⟩) n n, .slice (some ⟨hi, 0, none⟩) n n, u14, u15, u16, u17, .slice (some ⟨gW, 0, none⟩) n n, .slice (some ⟨w6.heap.size, 0, none⟩) n n, u20, u21, u22, u23, u24, u25, u26, u27, u28, u29, u30, u31, u32, u33, u34, u35, u36, u37, u38, u39, u40, u41, u42, u43, u44, u45, u46, u47, u48, u49, u50, u51, u52, u53, u54, u55, u56, u57, u58, u59, u60, u61, u62, u63, u64, u65, u66, u67, u68, u69, u70, u71, u72, u73, u74, u75, u76, u77, u78, u79, u80, u81, u82, u83, u84, u85, u86, u87, u88, u89, u90, u91, u92, u93, u94, u95, u96, u97, u98, u99, u100, u101, u102, u103, u104, u105, u106, u107, u108, u109, u110, u111, u112, u113, u114, u115, u116, u117, u118, u119, u120, u121, u122, u123, u124, u125, u126, u127, u128, u129, u130, u131, u132, u133, u134, u135, u136, u137, u138, u139, u140, u141, u142, u143, u144, u145, u146, u147, u148, u149, u150, u151, u152, u153, u154, u155, u156, u157, u158, u159, u160, u161, u162, u163, u164, u165, u166, u167, u168, u169, u170, u171, u172, u173, u174, u175, u176, u177, u178, u179, u180, u181, u182, u183, u184, u185, u186, u187, u188, u189, u190, u191, u192, u193, u194, u195, u196, u197, u198, u199, u200, u201, u202, u203, u204, u205, u206, u207, u208, u209, u210, u211, u212, u213, u214, u215, u216, u217, u218, u219, u220, u221, u222, u223, u224, u225, u226, u227, u228, u229, u230, u231, u232, u233, u234, u235, u236, u237, u238, u239, u240, u241, u242, u243, u244, u245, u246, u247, u248, u249, u250, u251, u252, u253, u254, u255, u256, u257, u258, u259, u260, u261, u262, u263, u264, u265, u266, u267, u268, u269, u270, u271, u272, u273, u274, u275, u276, u277, u278, u279, u280, u281, u282, u283, u284, u285, u286, u287, u288, u289, u290, u291, u292, u293, u294, u295, u296, u297, u298, u299, u300, u301, u302, u303, u304, u305], []⟩ w7 := by
  conv => arg 2; simp only [Try.f5, Option.getD_some, cutAt, dropAt]
  have HE : Hid (Ends w w6 w.heap.size gW hi n Ab Ag Cb Cg Lz Lf Zf Ff la) := hE
  have HZ : Hid (∀ r, r < n → Lf r ≤ 1048576) := hz
  have H1 : Hid (Cells w A1 m (fun i => .int .i64 (tx i))) := hc1
  have H2 : Hid (Cells w A2 m (fun i => .int .i64 (ow i))) := hc2
  have H3 : Hid (Cells w A3 m (fun i => .bool (ab i))) := hc3
  have H5 : Hid (∀ i, i < m → 0 ≤ ow i ∧ ow i < n) := how
  have H6 : Hid _ := hskip
  have H7 : Hid _ := hstep
  have H8 : Hid (∀ o, o < n → P m o = Lf o) := hend
  have H9 : Hid (PosIs w6 w7 n (fun o => (P 0 o : Int))) := hP0
  clear hE hz hc1 hc2 hc3 how hskip hstep hend hP0
  go_wp2
  go_loopw [22] (fun i wr => ∃ (k : Nat), k ≤ m ∧ i = .int .i64 k ∧ PosIs w6 wr n (fun o => (P k o : Int))) (fun i _ => m - (intOf i).toNat)
  case atStart => exact ⟨0, Nat.zero_le _, rfl, H9.out⟩
  case round =>
    obtain ⟨k, hk, rfl, hP⟩ := hrel
    have HP : Hid (PosIs w6 wr n (fun o => (P k o : Int))) := hP
    have hL := HE.out.later hP.below
    clear hP H9
    by_cases hlt : k < m
    · obtain ⟨b1, o1, rfl, _, hcc1⟩ := (H1.out.below hL.below (Nat.le_refl _)).lit (by omega)
      obtain ⟨b2, o2, rfl, _, hcc2⟩ := (H2.out.below hL.below (Nat.le_refl _)).lit (by omega)
      obtain ⟨b3, o3, rfl, _, hcc3⟩ := (H3.out.below hL.below (Nat.le_refl _)).lit (by omega)
      have k1 := hcc1 k hlt
      have k2 := hcc2 k hlt
      have k3 := hcc3 k hlt
      have k5 := H5.out k hlt
      obtain ⟨o, hz⟩ : ∃ o : Nat, ow k = o := ⟨(ow k).toNat, by omega⟩
      have HO : Hid ((ow k).toNat = o) := by show (ow k).toNat = o; omega
      rw [hz] at k2 k5
      have ho : o < n := by omega
      have kl := hL.last o ho
      clear hcc1 hcc2 hcc3 hz H1 H2 H3 H5
      cases ha : ab k with
      | true =>
        rw [ha] at k3
        have HA : Hid (ab k = true) := ha
        clear ha hL
        go_wp2
        go_roundw
        case rel => exact ⟨k + 1, by omega, by go_num, HP.out.congr fun o' ho' => by rw [H6.out k hlt (Or.inl HA.out) o' ho']⟩
        case measure => simp [intOf]; omega
      | false =>
        rw [ha] at k3
        have HA : Hid (ab k = false) := ha
        clear ha
        by_cases hs : (k : Int) < la o
        · clear hL
          go_wp2
          go_roundw
          case rel => exact ⟨k + 1, by omega, by go_num, HP.out.congr fun o' ho' => by rw [H6.out k hlt (Or.inr (by rw [HO.out]; exact hs)) o' ho']⟩
          case measure => simp [intOf]; omega
        · obtain ⟨q1, q2, q3⟩ := H7.out k hlt HA.out (by rw [HO.out]; omega)
          simp only [HO.out] at q1 q2 q3
          have Q3 : Hid (∀ o', o' < n → P (k + 1) o' = if o' = o then P k o' + 1 else P k o') := q3
          obtain ⟨bg, og, hAg, _, hcg⟩ := (hL.gotc o ho).lit (by omega)
          have kg := hL.gotr o ho
          have kd := hcg (P k o) q1
          rw [q2] at kd
          rw [hAg] at kg
          have kz := HZ.out o ho
          have p1 : wr.cell? ⟨w6.heap.size, o, none⟩ = some (.int .i64 (P k o : Int)) := HP.out.row.cell ho
          have p2 : wr.frozen? ⟨w6.heap.size, o, none⟩ = false := HP.out.row.frozen o
          obtain ⟨p, hp⟩ : ∃ p : Nat, P k o = p := ⟨_, rfl⟩
          rw [hp] at p1 q1 kd
          have HPp : Hid (P k o = p) := hp
          clear hp q2 q3 hcg hAg hL H6 H7 H8
          have hd : decide ((Lf o : Int) ≤ (p : Int)) = false := by simp; omega
          go_wp2
          go_quiet (fail)
          go_wp2
          go_roundw
          case rel =>
            refine ⟨k + 1, by omega, by go_num, ?_⟩
            refine (HP.out.drewN _).set fun o' ho' => ?_
            rw [Q3.out o' ho']
            by_cases e : o' = o
            · subst e; rw [if_pos rfl, if_pos rfl, HPp.out]; omega
            · rw [if_neg e, if_neg e]
          case measure => simp [intOf]; omega
    · obtain rfl : k = m := by omega
      clear hL H1 H2 H3 H5 H6 H7
      go_wp2
      go_loopw [24] (fun i wr => ∃ (j : Nat), j ≤ n ∧ i = .int .i64 j ∧ PosIs w6 wr n (fun o => (P k o : Int))) (fun i _ => n - (intOf i).toNat)
      case atStart => exact ⟨0, Nat.zero_le _, rfl, HP.out⟩
      case round =>
        obtain ⟨j, hj, rfl, hP⟩ := hrel
        have HP3 : Hid (PosIs w6 wr n (fun o => (P k o : Int))) := hP
        have hL := HE.out.later hP.below
        clear hP HP
        by_cases hjl : j < n
        · have kg := hL.gotr j hjl
          have p1 : wr.cell? ⟨w6.heap.size, j, none⟩ = some (.int .i64 (Lf j : Int)) := by
            have h := HP3.out.row.cell hjl
            rw [H8.out j hjl] at h
            exact h
          clear hL
          go_wp2
          go_quiet (fail)
          go_wp2
          go_roundw
          case rel => exact ⟨j + 1, by omega, by go_num, HP3.out.drewN _⟩
          case measure => simp [intOf]; omega
        · have hf := hL.below
          clear hL
          have HF : Hid (Below w.heap.size w wr) := hf
          clear hf
          go_wp2
          go_ret
          exact ⟨rfl, HF.out⟩
end Go.Proofs.Qxb6616109a
