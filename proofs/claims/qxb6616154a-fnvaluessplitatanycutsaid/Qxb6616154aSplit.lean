import Derived.Test.Qxb6616154aSplitB
namespace Go.Proofs.Qxb6616154a
open Go.RowKit Go.Deep Go.Joins
set_option linter.unusedVariables false

set_option maxRecDepth 100000 in
set_option maxHeartbeats 4000000 in
theorem phase1 (C : Code) (A0 A1 A2 : Option Addr) (n0 c0 n1 c1 n2 c2 : Nat) (cut : Int) (s : ByteArray) (nm vl : Nat → ByteArray) (ln : Nat → Int) (w : World)
    (h0 : n0 ≤ maxLen) (h1 : n1 ≤ maxLen) (h2 : n2 ≤ maxLen) (hs : s.size ≤ maxLen) (hnm : ∀ i, i < n0 → (nm i).size ≤ maxLen) (hvl : ∀ i, i < n2 → (vl i).size ≤ maxLen) (hcut : In64 cut)
    (hc0 : Cells w A0 n0 (fun i => .string (nm i))) (hc1 : Cells w A1 n1 (fun i => .int .i64 (ln i))) (hc2 : Cells w A2 n2 (fun i => .string (vl i)))
    {u5 u6 u7 u8 u9 u10 u11 u12 u13 u14 u15 u16 u17 u18 u19 u20 u21 u22 u23 u24 u25 u26 u27 u28 u29 u30 u31 u32 u33 u34 u35 u36 u37 u38 u39 u40 u41 u42 u43 u44 u45 u46 u47 u48 u49 u50 u51 u52 u53 u54 u55 u56 u57 u58 u59 u60 u61 u62 u63 u64 u65 u66 u67 u68 u69 u70 u71 u72 u73 u74 u75 u76 u77 u78 u79 u80 u81 u82 u83 u84 u85 u86 u87 u88 u89 u90 u91 u92 u93 u94 u95 u96 u97 u98 u99 u100 u101 u102 u103 u104 u105 u106 u107 u108 u109 u110 u111 u112 u113 u114 u115 u116 u117 u118 u119 u120 u121 u122 u123 u124 u125 u126 u127 u128 u129 u130 u131 u132 u133 u134 u135 u136 u137 : Value}
    (hC : ∀ (w4 : World) (B1 B2 B3 : Option Addr) (m1 d1 m2 d2 m3 d3 cn : Nat) (L : List Ent) {u1 u2 u3 u5 u6 u7 u8 u9 u10 u11 u15 u16 u17 u18 u19 u20 u21 u22 u23 u24 u25 u26 u27 u28 u29 u30 u31 u32 u33 u34 u35 u36 u37 u38 u39 u40 u41 u42 u43 u44 u45 u46 u47 u48 u49 u50 u51 u52 u53 u54 u55 u56 u57 u58 u59 u60 u61 u62 u63 u64 u65 u66 u67 u68 u69 u70 u71 u72 u73 u74 u75 u76 u77 u78 u79 u80 u81 u82 u83 u84 u85 u86 u87 u88 u89 u90 u91 u92 u93 u94 u95 u96 u97 u98 u99 u100 u101 u102 u103 u104 u105 u106 u107 u108 u109 u110 u111 u112 u113 u114 u115 u116 u117 u118 u119 u120 u121 u122 u123 u124 u125 u126 u127 u128 u129 u130 u131 u132 u133 u134 u135 u136 u137 : Value}, n0 ≤ 65536 → L.length = n0 → (∀ i (h : i < L.length), L[i].nm = nm i) → (vals s L).length = m1 → (vals s (L.take cn)).length = m2 → (vals s (L.drop cn)).length = m3 →
      Fin5 w w4 s (vals s L) (vals s (L.take cn)) (vals s (L.drop cn)) B1 B2 B3 → B1.isNone = (vals s L).isEmpty → Code.wp Try.prog C (bodyPost Try.prog Try.f3 fun e w' => e = .returned (.bool true) ∧ Below w.heap.size w w') ⟨#[.slice A0 n0 c0, u1, u2, u3, .string s, u5, u6, u7, u8, u9, u10, u11, .slice B1 m1 d1, .slice B2 m2 d2, .slice B3 m3 d3, u15, u16, u17, u18, u19, u20, u21, u22, u23, u24, u25, u26, u27, u28, u29, u30, u31, u32, u33, u34, u35, u36, u37, u38, u39, u40, u41, u42, u43, u44, u45, u46, u47, u48, u49, u50, u51, u52, u53, u54, u55, u56, u57, u58, u59, u60, u61, u62, u63, u64, u65, u66, u67, u68, u69, u70, u71, u72, u73, u74, u75, u76, u77, u78, u79, u80, u81, u82, u83, u84, u85, u86, u87, u88, u89, u90, u91, u92, u93, u94, u95, u96, u97, u98, u99, u100, u101, u102, u103, u104, u105, u106, u107, u108, u109, u110, u111, u112, u113, u114, u115, u116, u117, u118, u119, u120, u121, u122, u123, u124, u125, u126, u127, u128, u129, u130, u131, u132, u133, u134, u135, u136, u137], []⟩ w4) :
    Code.wp Try.prog (cutAt 10 (Try.f3.body.getD .skip) C) (bodyPost Try.prog Try.f3 fun e w' => e = .returned (.bool true) ∧ Below w.heap.size w w') ⟨#[.slice A0 n0 c0, .slice A1 n1 c1, .slice A2 n2 c2, .int .i64 cut, .string s, u5, u6, u7, u8, u9, u10, u11, u12, u13, u14, u15, u16, u17, u18, u19, u20, u21, u22, u23, u24, u25, u26, u27, u28, u29, u30, u31, u32, u33, u34, u35, u36, u37, u38, u39, u40, u41, u42, u43, u44, u45, u46, u47, u48, u49, u50, u51, u52, u53, u54, u55, u56, u57, u58, u59, u60, u61, u62, u63, u64, u65, u66, u67, u68, u69, u70, u71, u72, u73, u74, u75, u76, u77, u78, u79, u80, u81, u82, u83, u84, u85, u86, u87, u88, u89, u90, u91, u92, u93, u94, u95, u96, u97, u98, u99, u100, u101, u102, u103, u104, u105, u106, u107, u108, u109, u110, u111, u112, u113, u114, u115, u116, u117, u118, u119, u120, u121, u122, u123, u124, u125, u126, u127, u128, u129, u130, u131, u132, u133, u134, u135, u136, u137], []⟩ w := by
  conv => arg 2; simp only [Try.f3, Option.getD_some, cutAt]
  have HCC : Hid _ := @hC
  clear hC
  have hb6 := bytes6 A0 A1 A2 n0 c0 n1 c1 n2 c2 cut s nm vl w h0 h1 h2 hs hnm hvl hc0 hc2
  have hb7 := fun x => big7 A0 A1 A2 n0 c0 n1 c1 n2 c2 x nm vl w h0 h1 h2 hnm hvl hc0 hc2
  unfold maxLen at h0 h1 h2 hs
  unfold In64 at hcut
  have C0 : Hid (Cells w A0 n0 (fun i => .string (nm i))) := hc0
  have C1 : Hid (Cells w A1 n1 (fun i => .int .i64 (ln i))) := hc1
  have C2 : Hid (Cells w A2 n2 (fun i => .string (vl i))) := hc2
  clear hnm hvl hc0 hc1 hc2
  go_wp2_with fail
  refine hb6.mono ?_
  rintro e w' ⟨⟨b, rfl, _⟩, hw⟩
  have hw := hw.symm
  subst hw
  clear hb6
  dsimp only
  cases b
  · go_wp2
    go_ret
    exact ⟨rfl, Below.refl _ _⟩
  by_cases t0 : 1048576 < s.size
  · go_wp2
    go_ret
    exact ⟨rfl, Below.refl _ _⟩
  go_wp2_with fail
  refine (hb7 _).mono ?_
  rintro e w' ⟨⟨b, rfl, hbb⟩, hw⟩
  have hw := hw.symm
  subst hw
  clear hb7
  dsimp only
  cases b
  rotate_left
  · clear hbb
    go_wp2
    go_ret
    exact ⟨rfl, Below.refl _ _⟩
  obtain ⟨mb0, mb1, mb2⟩ := hbb rfl
  clear hbb
  by_cases e1 : n1 = n0
  rotate_left
  · have hb : ((n1 : Int) != (n0 : Int)) = true := by simp; omega
    go_wp2
    go_ret
    exact ⟨rfl, Below.refl _ _⟩
  by_cases e2 : n2 = n0
  rotate_left
  · have hb : ((n2 : Int) != (n0 : Int)) = true := by simp; omega
    subst e1
    go_wp2
    go_ret
    exact ⟨rfl, Below.refl _ _⟩
  subst e1
  subst e2
  by_cases t1 : cut < 0
  · go_wp2
    go_ret
    exact ⟨rfl, Below.refl _ _⟩
  by_cases t2 : (n2 : Int) < cut
  · go_wp2
    go_ret
    exact ⟨rfl, Below.refl _ _⟩
  obtain ⟨cn, rfl⟩ : ∃ cn : Nat, cut = cn := ⟨cut.toNat, by omega⟩
  have hcn : cn ≤ n2 := by omega
  clear h0 h1 h2 hcut t1 t2
  go_wp2_with fail
  refine (build8 A0 A1 A2 n2 c0 c1 c2 nm vl ln w (by omega) C0.out C1.out C2.out).mono ?_
  rintro e w1 ⟨rfl, d, hw1⟩
  have hL := mkL_length n2 nm vl ln
  have hb1 : Below w.heap.size w w1 := by rw [hw1]; exact below_drewN ((Below.refl _ _).alloc (Nat.le_refl _) _) d
  have hE1 : HasE w1 (some ⟨w.heap.size, 0, none⟩) (mkL n2 nm vl ln) := has_block (by rw [hw1]; exact blk_alloc_new _ _)
  have hz1 : w.heap.size < w1.heap.size := by rw [hw1]; show _ < (w.alloc _).heap.size; rw [nblk_alloc]; omega
  obtain ⟨L, hLL⟩ : ∃ L, mkL n2 nm vl ln = L := ⟨_, rfl⟩
  have hat : ∀ i (h : i < L.length), L[i] = ⟨nm i, ln i, vl i⟩ := by subst hLL; intro i h; exact mkL_at n2 nm vl ln i h
  rw [hLL] at hL hE1
  clear hw1 hLL
  have HLn : Hid (L.length = n2) := hL
  have HE1 : Hid (HasE w1 (some ⟨w.heap.size, 0, none⟩) L) := hE1
  have HB1 : Hid (Below w.heap.size w w1) := hb1
  have HAt : Hid (∀ i (h : i < L.length), L[i] = ⟨nm i, ln i, vl i⟩) := hat
  clear hL hE1 hb1 hat
  dsimp only
  go_wp2_with fail
  refine (values9 (some ⟨w.heap.size, 0, none⟩) n2 L s w1 n2 HLn.out (by omega) HE1.out).mono ?_
  rintro e w2 ⟨⟨v1, rfl, ho1, hn1⟩, hb2⟩
  obtain ⟨B1, d1, rfl, _, hh1, hne1, hnil1⟩ := ho1.has
  have HH1 : Hid (HasE w2 B1 (vals s L)) := hh1
  have HO1 : Hid (OwnsE w2 w1.heap.size (.slice B1 (vals s L).length d1) (vals s L)) := ho1
  have HN1 : Hid (B1.isNone = (vals s L).isEmpty) := by
    show B1.isNone = (vals s L).isEmpty
    cases hv : vals s L with
    | nil => simp [hnil1 (hn1 hv)]
    | cons a t => rw [hne1 (by rw [hv]; simp)]; rfl
  have HB2 : Hid (Below w1.heap.size w1 w2) := hb2
  obtain ⟨m1, hm1⟩ : ∃ m1, (vals s L).length = m1 := ⟨_, rfl⟩
  have HM1 : Hid ((vals s L).length = m1) := hm1
  have hm1b : m1 ≤ n2 := by have := vals_len s L; rw [HLn.out, hm1] at this; exact this
  rw [hm1]
  clear ho1 hn1 hb2 hh1 hne1 hnil1 hm1
  dsimp only
  go_wp2_with fail
  refine (values9 (some ⟨w.heap.size, 0, none⟩) n2 (L.take cn) s w2 cn (by rw [List.length_take, HLn.out]; omega) (by omega) ((HE1.out.below HB2.out (Nat.le_refl _)).take cn)).mono ?_
  rintro e w3 ⟨⟨v2, rfl, ho2, _⟩, hb3⟩
  obtain ⟨B2, d2, rfl, _, hh2, _, _⟩ := ho2.has
  have HH2 : Hid (HasE w3 B2 (vals s (L.take cn))) := hh2
  have HB3 : Hid (Below w2.heap.size w2 w3) := hb3
  obtain ⟨m2, hm2⟩ : ∃ m2, (vals s (L.take cn)).length = m2 := ⟨_, rfl⟩
  have HM2 : Hid ((vals s (L.take cn)).length = m2) := hm2
  rw [hm2]
  clear ho2 hb3 hh2 hm2
  have hz2 := HB2.out.size
  have hz3 := HB3.out.size
  have third : ∀ (w4 : World) (v : Value), OwnsE w4 w3.heap.size v (vals s (L.drop cn)) → Below w3.heap.size w3 w4 → ∃ B3 d3, v = .slice B3 (vals s (L.drop cn)).length d3 ∧ Fin5 w w4 s (vals s L) (vals s (L.take cn)) (vals s (L.drop cn)) B1 B2 B3 := by
    intro w4 v ho hb
    obtain ⟨B3, d3, rfl, _, hh, _, _⟩ := ho.has
    have b2 : Below w.heap.size w w2 := HB1.out.trans (HB2.out.mono (by omega))
    have b3 : Below w.heap.size w w3 := b2.trans (HB3.out.mono (by omega))
    have b4 : Below w.heap.size w w4 := b3.trans (hb.mono (by omega))
    exact ⟨B3, d3, rfl, ⟨b4, (HH1.out.below HB3.out (Nat.le_refl _)).below hb (Nat.le_refl _), HH2.out.below hb (Nat.le_refl _), hh⟩⟩
  have hE3 : HasE w3 (some ⟨w.heap.size, 0, none⟩) L := (HE1.out.below HB2.out (Nat.le_refl _)).below HB3.out (Nat.le_refl _)
  have H3 : Hid (∀ (w4 : World) (v : Value), OwnsE w4 w3.heap.size v (vals s (L.drop cn)) → Below w3.heap.size w3 w4 → ∃ B3 d3, v = .slice B3 (vals s (L.drop cn)).length d3 ∧ Fin5 w w4 s (vals s L) (vals s (L.take cn)) (vals s (L.drop cn)) B1 B2 B3) := third
  have HE3 : Hid (HasE w3 (some ⟨w.heap.size, 0, none⟩) L) := hE3
  clear third hE3 HE1 HB1 HB2 HB3 HH1 HH2 HO1
  dsimp only
  by_cases hcc : cn = n2
  · subst hcc
    have hd0 : L.drop cn = [] := List.drop_of_length_le (by rw [HLn.out]; exact Nat.le_refl _)
    have HD : Hid (L.drop cn = []) := hd0
    clear hd0
    go_wp2_with fail
    refine (values9 (some ⟨w.heap.size, 0, none⟩) 0 (L.drop cn) s w3 0 (by rw [HD.out]; rfl) (by omega) ⟨fun i hi => by rw [HD.out] at hi; simp at hi⟩).mono ?_
    rintro e w4 ⟨⟨v3, rfl, ho3, _⟩, hb4⟩
    obtain ⟨B3, d3, rfl, hF⟩ := H3.out w4 v3 ho3 hb4
    obtain ⟨m3, hm3⟩ : ∃ m3, (vals s (L.drop cn)).length = m3 := ⟨_, rfl⟩
    rw [hm3]
    have HM3 : Hid ((vals s (L.drop cn)).length = m3) := hm3
    have HF : Hid (Fin5 w w4 s (vals s L) (vals s (L.take cn)) (vals s (L.drop cn)) B1 B2 B3) := hF
    clear ho3 hb4 hF hm3
    dsimp only
    go_wp2
    exact HCC.out w4 B1 B2 B3 m1 d1 m2 d2 m3 d3 cn L (by omega) HLn.out (fun i h => by rw [HAt.out i h]) HM1.out HM2.out HM3.out HF.out HN1.out
  · go_wp2_with fail
    refine (values9 (some ⟨w.heap.size, cn * 4, none⟩) (n2 - cn) (L.drop cn) s w3 (n2 - cn) (by rw [List.length_drop, HLn.out]) (by omega) (HE3.out.drop cn)).mono ?_
    rintro e w4 ⟨⟨v3, rfl, ho3, _⟩, hb4⟩
    obtain ⟨B3, d3, rfl, hF⟩ := H3.out w4 v3 ho3 hb4
    obtain ⟨m3, hm3⟩ : ∃ m3, (vals s (L.drop cn)).length = m3 := ⟨_, rfl⟩
    rw [hm3]
    have HM3 : Hid ((vals s (L.drop cn)).length = m3) := hm3
    have HF : Hid (Fin5 w w4 s (vals s L) (vals s (L.take cn)) (vals s (L.drop cn)) B1 B2 B3) := hF
    clear ho3 hb4 hF hm3
    dsimp only
    go_wp2
    exact HCC.out w4 B1 B2 B3 m1 d1 m2 d2 m3 d3 cn L (by omega) HLn.out (fun i h => by rw [HAt.out i h]) HM1.out HM2.out HM3.out HF.out HN1.out

set_option maxRecDepth 100000 in
theorem split10 : Try.f3.body.getD .skip = cutAt 10 (Try.f3.body.getD .skip) (dropAt 10 (Try.f3.body.getD .skip)) := by kernel_rfl

set_option maxRecDepth 100000 in
set_option maxHeartbeats 4000000 in
theorem walkS (A0 A1 A2 : Option Addr) (n0 c0 n1 c1 n2 c2 : Nat) (cut : Int) (s : ByteArray) (nm vl : Nat → ByteArray) (ln : Nat → Int) (w : World)
    (h0 : n0 ≤ maxLen) (h1 : n1 ≤ maxLen) (h2 : n2 ≤ maxLen) (hs : s.size ≤ maxLen) (hnm : ∀ i, i < n0 → (nm i).size ≤ maxLen) (hvl : ∀ i, i < n2 → (vl i).size ≤ maxLen) (hcut : In64 cut)
    (hc0 : Cells w A0 n0 (fun i => .string (nm i))) (hc1 : Cells w A1 n1 (fun i => .int .i64 (ln i))) (hc2 : Cells w A2 n2 (fun i => .string (vl i))) :
    Calls Try.prog 3 #[.slice A0 n0 c0, .slice A1 n1 c1, .slice A2 n2 c2, .int .i64 cut, .string s] w fun e w' => e = .returned (.bool true) ∧ Below w.heap.size w w' := by
  go_enter Try.func3, Try.ntmps3
  show Code.wp Try.prog (Try.f3.body.getD .skip) _ _ _
  rw [split10]
  refine phase1 _ A0 A1 A2 n0 c0 n1 c1 n2 c2 cut s nm vl ln w h0 h1 h2 hs hnm hvl hcut hc0 hc1 hc2 ?_
  intro w4 B1 B2 B3 m1 d1 m2 d2 m3 d3 cn L
  intros
  rename_i hn hL hat hm1 hm2 hm3 hF hnil
  exact phase2 w w4 A0 B1 B2 B3 n0 c0 m1 d1 m2 d2 m3 d3 cn s nm L hn hL hat hc0 hm1 hm2 hm3 hF hnil
end Go.Proofs.Qxb6616154a
