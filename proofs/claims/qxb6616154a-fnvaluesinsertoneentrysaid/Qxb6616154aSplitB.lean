import Derived.Test.Qxb6616154aSplitA
import Derived.Test.Qxb6616154aCut
namespace Go.Proofs.Qxb6616154a
open Go.RowKit Go.Deep Go.Joins
set_option linter.unusedVariables false

theorem below_call {w4 wr w' : World} {o : Obj} (h : Below w4.heap.size w4 wr) (hs : w4.heap.size ≤ wr.heap.size) (hb : Below ((wr.alloc o).drew).heap.size (wr.alloc o).drew w') : Below w4.heap.size w4 w' := by
  have h1 : Below w4.heap.size w4 (wr.alloc o).drew := (h.alloc hs o).drew
  exact h1.trans (hb.mono (by show _ ≤ (wr.alloc o).heap.size; rw [nblk_alloc]; omega))

attribute [local go_sem ↓] Go.wp_at_zero Go.wp_at_succ

set_option maxRecDepth 100000 in
set_option maxHeartbeats 4000000 in
theorem phase2 (w w4 : World) (A0 B1 B2 B3 : Option Addr) (n c0 m1 d1 m2 d2 m3 d3 cn : Nat) (s : ByteArray) (nm : Nat → ByteArray) (L : List Ent) (hn : n ≤ 65536) (hL : L.length = n) (hat : ∀ i (h : i < L.length), L[i].nm = nm i)
    (hc0 : Cells w A0 n (fun i => .string (nm i))) (hm1 : (vals s L).length = m1) (hm2 : (vals s (L.take cn)).length = m2) (hm3 : (vals s (L.drop cn)).length = m3)
    (hF : Fin5 w w4 s (vals s L) (vals s (L.take cn)) (vals s (L.drop cn)) B1 B2 B3) (hnil : B1.isNone = (vals s L).isEmpty)
    {u1 u2 u3 u5 u6 u7 u8 u9 u10 u11 u15 u16 u17 u18 u19 u20 u21 u22 u23 u24 u25 u26 u27 u28 u29 u30 u31 u32 u33 u34 u35 u36 u37 u38 u39 u40 u41 u42 u43 u44 u45 u46 u47 u48 u49 u50 u51 u52 u53 u54 u55 u56 u57 u58 u59 u60 u61 u62 u63 u64 u65 u66 u67 u68 u69 u70 u71 u72 u73 u74 u75 u76 u77 u78 u79 u80 u81 u82 u83 u84 u85 u86 u87 u88 u89 u90 u91 u92 u93 u94 u95 u96 u97 u98 u99 u100 u101 u102 u103 u104 u105 u106 u107 u108 u109 u110 u111 u112 u113 u114 u115 u116 u117 u118 u119 u120 u121 u122 u123 u124 u125 u126 u127 u128 u129 u130 u131 u132 u133 u134 u135 u136 u137 : Value} :
    Code.wp Try.prog (dropAt 10 (Try.f3.body.getD .skip)) (bodyPost Try.prog Try.f3 fun e w' => e = .returned (.bool true) ∧ Below w.heap.size w w') ⟨#[.slice A0 n c0, u1, u2, u3, .string s, u5, u6, u7, u8, u9, u10, u11, .slice B1 m1 d1, .slice B2 m2 d2, .slice B3 m3 d3, u15, u16, u17, u18, u19, u20, u21, u22, u23, u24, u25, u26, u27, u28, u29, u30, u31, u32, u33, u34, u35, u36, u37, u38, u39, u40, u41, u42, u43, u44, u45, u46, u47, u48, u49, u50, u51, u52, u53, u54, u55, u56, u57, u58, u59, u60, u61, u62, u63, u64, u65, u66, u67, u68, u69, u70, u71, u72, u73, u74, u75, u76, u77, u78, u79, u80, u81, u82, u83, u84, u85, u86, u87, u88, u89, u90, u91, u92, u93, u94, u95, u96, u97, u98, u99, u100, u101, u102, u103, u104, u105, u106, u107, u108, u109, u110, u111, u112, u113, u114, u115, u116, u117, u118, u119, u120, u121, u122, u123, u124, u125, u126, u127, u128, u129, u130, u131, u132, u133, u134, u135, u136, u137], []⟩ w4 := by
  have hsplit : vals s L = vals s (L.take cn) ++ vals s (L.drop cn) := by rw [← vals_append, List.take_append_drop]
  have hm : m1 = m2 + m3 := by rw [← hm1, hsplit, List.length_append, hm2, hm3]
  have hm1b : m1 ≤ n := by have := vals_len s L; rw [hL, hm1] at this; exact this
  have hq := fun (w : World) (a : Option Addr) (n c n' c' : Nat) => Lib.run_eql_slice_nil (P := Try.prog) w 26 32 a n c n' c' Try.underlying26
  have hnil2 : B1.isNone = decide ((m1 : Int) = 0) := by
    rw [hnil]
    cases hv : vals s L with
    | nil => rw [hv] at hm1; simp at hm1; subst hm1; simp
    | cons a t => rw [hv] at hm1; simp at hm1; rw [decide_eq_false (by omega)]; rfl
  have HF : Hid (Fin5 w w4 s (vals s L) (vals s (L.take cn)) (vals s (L.drop cn)) B1 B2 B3) := hF
  have HC : Hid (Cells w4 A0 n (fun i => .string (nm i))) := hc0.below hF.below (Nat.le_refl _)
  have HA : Hid (∀ i (h : i < L.length), L[i].nm = nm i) := hat
  have HL : Hid (L.length = n) := hL
  have HM1 : Hid ((vals s L).length = m1) := hm1
  have HM2 : Hid ((vals s (L.take cn)).length = m2) := hm2
  have HM3 : Hid ((vals s (L.drop cn)).length = m3) := hm3
  have HS : Hid (vals s L = vals s (L.take cn) ++ vals s (L.drop cn)) := hsplit
  have HNil : Hid (B1.isNone = decide ((m1 : Int) = 0)) := hnil2
  have hma : m1 ≤ m2 + m3 := by omega
  have hmb : m2 + m3 ≤ m1 := by omega
  clear hF hc0 hat hL hm1 hm2 hm3 hsplit hnil2 hnil hm
  conv => arg 2; simp only [Try.f3, Option.getD_some, dropAt]
  go_wp2
  go_loop [15, 16] (fun z i => ∃ k : Nat, k ≤ n ∧ i = .int .i64 k ∧ z = .int .i64 ((vals s (L.take k)).length : Nat)) (fun _ i => n - (intOf i).toNat)
  case atStart => exact ⟨0, Nat.zero_le _, rfl, rfl⟩
  case round =>
    obtain ⟨k, hk, rfl, rfl⟩ := hrel
    obtain ⟨q, hq1⟩ : ∃ q, (vals s (L.take k)).length = q := ⟨_, rfl⟩
    rw [hq1]
    have hqk : q ≤ k := by
      have h1 := vals_len s (L.take k)
      have h2 : (L.take k).length ≤ k := List.length_take_le _ _
      omega
    have HQ : Hid ((vals s (L.take k)).length = q) := hq1
    clear hq1
    by_cases hlt : k < n
    · have hkl : k < L.length := by rw [HL.out]; exact hlt
      obtain ⟨b, off, rfl, _, hcc⟩ := HC.out.lit (by omega)
      have hck := hcc k hlt
      clear hcc HC HF
      cases hq2 : (nm k).toList == s.toList with
      | true =>
        have HV : Hid ((vals s (L.take (k + 1))).length = q + 1) := by
          show (vals s (L.take (k + 1))).length = q + 1
          rw [vals_snoc_yes hkl (by unfold isN; rw [HA.out k hkl]; exact hq2), List.length_append, HQ.out]; rfl
        go_wp2
        go_round
        case rel => exact ⟨k + 1, by omega, by go_num, by rw [HV.out]; go_num⟩
        case measure => simp [intOf]; omega
      | false =>
        have HV : Hid ((vals s (L.take (k + 1))).length = q) := by
          show (vals s (L.take (k + 1))).length = q
          rw [vals_snoc_no hkl (by unfold isN; rw [HA.out k hkl]; exact hq2), HQ.out]
        go_wp2
        go_round
        case rel => exact ⟨k + 1, by omega, by go_num, by rw [HV.out]⟩
        case measure => simp [intOf]; omega
    · have eq : q = m1 := by rw [← HQ.out, ← HM1.out, List.take_of_length_le (by rw [HL.out]; omega)]
      subst eq
      obtain ⟨z1, z2⟩ : ∃ zb, B1.isNone = zb ∧ ((q : Int) == 0) = zb := ⟨_, rfl, by rw [HNil.out]; exact Bool.eq_iff_iff.2 (by simp)⟩
      have hz := z2.1
      have hz3 := z2.2
      clear HC HA HQ HNil z2
      cases z1
      all_goals
        go_wp2
        clear hq hz hz3
        go_loopw [17] (fun i wr => ∃ k2 : Nat, k2 ≤ q ∧ i = .int .i64 k2 ∧ Below w4.heap.size w4 wr) (fun i _ => q - (intOf i).toNat)
        case atStart => exact ⟨0, Nat.zero_le _, rfl, Below.refl _ _⟩
        case round =>
          obtain ⟨k2, hk2, rfl, hbl⟩ := hrel
          have hG := HF.out.later hbl
          have HB : Hid (Below w4.heap.size w4 wr) := hbl
          have hsz := hbl.size
          clear hbl
          by_cases hlt2 : k2 < q
          · have hkv : k2 < (vals s L).length := by rw [HM1.out]; exact hlt2
            obtain ⟨b, off, rfl, lb, hcc⟩ := hG.h1.lit (by omega)
            obtain ⟨g0, g1, g2, g3⟩ := hcc k2 hkv
            have gn := vals_named hkv
            obtain ⟨e, he⟩ : ∃ e, (vals s L)[k2] = e := ⟨_, rfl⟩
            rw [he] at g0 g1 g2 gn
            have gn2 : (e.nm.toList != s.toList) = false := by simp only [bne, gn]; rfl
            have f0 : ∀ o, (wr.alloc o).cell? ⟨b, off + k2 * 4, none⟩ = some (.string e.nm) := fun o => (World.cell?_alloc_lt wr _ _ (by exact lb)).trans g0
            have f1 : ∀ o, (wr.alloc o).cell? ⟨b, off + k2 * 4 + 1, none⟩ = some (.int .i64 e.ln) := fun o => (World.cell?_alloc_lt wr _ _ (by exact lb)).trans g1
            have f2 : ∀ o, (wr.alloc o).cell? ⟨b, off + k2 * 4 + 2, none⟩ = some (.string e.vl) := fun o => (World.cell?_alloc_lt wr _ _ (by exact lb)).trans g2
            have f3 : ∀ o, (wr.alloc o).cell? ⟨b, off + k2 * 4 + 3, none⟩ = some (.pointer none) := fun o => (World.cell?_alloc_lt wr _ _ (by exact lb)).trans g3
            by_cases hl2 : k2 < m2
            · have hk3 : k2 < (vals s (L.take cn)).length := by rw [HM2.out]; exact hl2
              have he2 : (vals s (L.take cn))[k2] = e := by
                rw [← he]; simp only [HS.out]; rw [List.getElem_append_left hk3]
              obtain ⟨b2, off2, rfl, lb2, hcc2⟩ := hG.h2.lit (by omega)
              obtain ⟨p0, p1, p2, p3⟩ := hcc2 k2 hk3
              rw [he2] at p0 p1 p2
              have q0 : ∀ o, (wr.alloc o).cell? ⟨b2, off2 + k2 * 4, none⟩ = some (.string e.nm) := fun o => (World.cell?_alloc_lt wr _ _ (by exact lb2)).trans p0
              have q1 : ∀ o, (wr.alloc o).cell? ⟨b2, off2 + k2 * 4 + 1, none⟩ = some (.int .i64 e.ln) := fun o => (World.cell?_alloc_lt wr _ _ (by exact lb2)).trans p1
              have q2 : ∀ o, (wr.alloc o).cell? ⟨b2, off2 + k2 * 4 + 2, none⟩ = some (.string e.vl) := fun o => (World.cell?_alloc_lt wr _ _ (by exact lb2)).trans p2
              have q3 : ∀ o, (wr.alloc o).cell? ⟨b2, off2 + k2 * 4 + 3, none⟩ = some (.pointer none) := fun o => (World.cell?_alloc_lt wr _ _ (by exact lb2)).trans p3
              clear hcc hcc2 hG HF HS HM1 HM2 HM3 HL he he2 hkv hk3 p0 p1 p2 p3
              go_wp2
              go_region_with (go_at_call 10; refine (same10 e.nm e.ln e.vl _).mono ?_; rintro e' w' ⟨rfl, hb'⟩; dsimp only; have HB2 : Hid _ := hb'; clear hb')
              all_goals
                go_wp2
                go_roundw
                case rel => exact ⟨k2 + 1, by omega, by go_num, below_call HB.out hsz HB2.out⟩
                case measure => simp [intOf]; omega
            · have hk3 : k2 - m2 < (vals s (L.drop cn)).length := by rw [HM3.out]; omega
              have he2 : (vals s (L.drop cn))[k2 - m2] = e := by
                rw [← he]; simp only [HS.out]; rw [List.getElem_append_right (by rw [HM2.out]; omega)]; simp only [HM2.out]
              obtain ⟨b2, off2, rfl, lb2, hcc2⟩ := hG.h3.lit (by omega)
              obtain ⟨p0, p1, p2, p3⟩ := hcc2 (k2 - m2) hk3
              rw [he2] at p0 p1 p2
              obtain ⟨j, hj⟩ : ∃ j, k2 - m2 = j := ⟨_, rfl⟩
              rw [hj] at p0 p1 p2 p3
              obtain rfl : k2 = m2 + j := by omega
              have q0 : ∀ o, (wr.alloc o).cell? ⟨b2, off2 + j * 4, none⟩ = some (.string e.nm) := fun o => (World.cell?_alloc_lt wr _ _ (by exact lb2)).trans p0
              have q1 : ∀ o, (wr.alloc o).cell? ⟨b2, off2 + j * 4 + 1, none⟩ = some (.int .i64 e.ln) := fun o => (World.cell?_alloc_lt wr _ _ (by exact lb2)).trans p1
              have q2 : ∀ o, (wr.alloc o).cell? ⟨b2, off2 + j * 4 + 2, none⟩ = some (.string e.vl) := fun o => (World.cell?_alloc_lt wr _ _ (by exact lb2)).trans p2
              have q3 : ∀ o, (wr.alloc o).cell? ⟨b2, off2 + j * 4 + 3, none⟩ = some (.pointer none) := fun o => (World.cell?_alloc_lt wr _ _ (by exact lb2)).trans p3
              clear hcc hcc2 hG HF HS HM1 HM2 HM3 HL he he2 hkv hk3 p0 p1 p2 p3 hj
              have hj3 : j < m3 := by omega
              go_wp2
              go_region_with (go_at_call 10; refine (same10 e.nm e.ln e.vl _).mono ?_; rintro e' w' ⟨rfl, hb'⟩; dsimp only; have HB2 : Hid _ := hb'; clear hb')
              all_goals
                go_wp2
                go_roundw
                case rel => exact ⟨m2 + j + 1, by omega, by go_num, below_call HB.out hsz HB2.out⟩
                case measure => simp [intOf]; omega
          · have hbw := hG.below
            have HBW : Hid (Below w.heap.size w wr) := hbw
            clear hG hbw
            go_wp2
            go_ret
            exact ⟨rfl, HBW.out⟩
end Go.Proofs.Qxb6616154a
