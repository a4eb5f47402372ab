import Derived.Test.Qxb6616109aDlV
namespace Go.Proofs.Qxb6616109a
open Go.RowKit Go.Deep Go.Joins
set_option linter.unusedSimpArgs false
set_option linter.unusedVariables false

variable {N p : Nat} {w w1 : World} {V : Nat → Value} {X : Nat → List Value}

set_option maxHeartbeats 1000000 in
theorem reach_no (x via : Nat) (z : Int) (w : World) (h : Sx N p w V X) (hz : (X 0)[x]? = some (.int .i64 z)) (hne : z ≠ -1) (hx : x ≤ 65536) (hF : (X 0).length ≤ 65536) :
    Calls Try.prog 75 #[.pointer (some ⟨p, 11, none⟩), .int .i64 (x : Nat), .int .i64 (via : Nat)] w fun e w' => e = .returned (.bool false) ∧ w' = w := by
  obtain ⟨g, cap, hv, _, _, hc, _⟩ := h.at (i := 0) (by decide) hz
  have c11 := (h.pc 0 (by decide)).1
  rw [hv] at c11
  have hlt : x < (X 0).length := by
    rcases Nat.lt_or_ge x (X 0).length with h1 | h1
    · exact h1
    · rw [List.getElem?_eq_none h1] at hz; cases hz
  obtain ⟨n, hn⟩ : ∃ n, (X 0).length = n := ⟨_, rfl⟩
  rw [hn] at c11 hlt hF
  clear h hz hv hn
  have t1 : decide ((n : Int) ≤ (x : Int)) = false := decide_eq_false (by omega)
  have t2 : (z != -1) = true := by simpa using hne
  have t3 : (z == -1) = false := by simpa using hne
  go_enter Try.func75, Try.ntmps75
  go_wp2
  go_ret
  exact ⟨rfl, rfl⟩

theorem Sx.form (h : Sx N p w V X) {i : Nat} (hi : i < 4) : ∃ A c, V i = .slice A (X i).length c := by
  rcases ownsRow_forms (h.row i hi) with ⟨e, h0⟩ | ⟨g, cap, e⟩
  · exact ⟨none, 0, by rw [e, h0]⟩
  · exact ⟨_, cap, e⟩
theorem split75 : Try.f75.body.getD .skip = cutAt 2 (Try.f75.body.getD .skip) (dropAt 2 (Try.f75.body.getD .skip)) := by kernel_rfl

/-- The append of x onto row i. -/
theorem tn_app {i : Nat} (hi : i < 4) (h : Sx N p w V X) (x : Int) (hl : (X i).length ≤ 65536) :
    ∃ g cap w', (Builtin.append_ #[25, 25] 25 #[V i, .slice (some ⟨w.heap.size, 0, none⟩) 1 1]).run Try.prog (w.alloc (.cells #[.int .i64 x] 3)) = .ok (.slice (some ⟨g, 0, none⟩) ((X i).length + 1) cap) w' ∧
      Tn N w w' (V i) (.slice (some ⟨g, 0, none⟩) ((X i).length + 1) cap) (X i ++ [.int .i64 x]) := by
  obtain ⟨i3, hi3, hy0, hy1, hy2⟩ := info_parts info3
  have hsz := h.size
  have hnews : ∀ j u, ([.int .i64 x] : List Value)[j]? = some u → (w.alloc (.cells #[.int .i64 x] 3)).cell? (Addr.add ⟨w.heap.size, 0, none⟩ j) = some u := by
    intro j u hj
    match j, hj with
    | 0, hj => simp at hj; subst hj; simp [Addr.add]
  obtain ⟨g, cap, w', h1, h2, h3, h4⟩ := run_append_row (P := Try.prog) (w.alloc (.cells #[.int .i64 x] 3)) N 25 25 3 i3 (.int .i64 0) 1 8 Try.underlying25 hi3 hy0 hy1 hy2 rfl (by decide) (V i) (X i).length (X i) ((h.row i hi).alloc _) ⟨w.heap.size, 0, none⟩ 1 [.int .i64 x] rfl hnews (by intro u hu; simp at hu; subst hu; rfl) (by simp only [maxLen]; omega) (by omega) (by simp; omega)
  refine ⟨g, cap, w', h1, ?_⟩
  have e1 : (w.alloc (.cells #[.int .i64 x] 3)).heap.size = w.heap.size + 1 := by simp
  refine ⟨h3.os, h3.tape, h3.output, by have := h3.size; omega, ?_, ?_, ?_⟩
  · intro b hb hne
    rw [h3.block b (by omega) (fun e => hne e.symm)]
    exact Below.heap_alloc w _ b hb
  · simpa using h2
  · intro b hb
    have hbg : g = b := by simpa [Value.ownBlock] using hb
    subst hbg
    rcases h4 with h5 | h5
    · exact .inl h5
    · right; omega

set_option maxHeartbeats 2000000 in
set_option maxRecDepth 100000 in
theorem reachB (x via : Nat) (w : World) (h : Sx N p w V X) (hz : (X 0)[x]? = some (.int .i64 (-1))) (hx : x ≤ 65536) (hR : (X 2).length ≤ 65536) (R : Ending → World → Prop)
    (hRR : ∀ w' V', Sx N p w' V' (put1 (put1 X 0 ((X 0).set x (.int .i64 (via : Int)))) 2 (X 2 ++ [.int .i64 (x : Int)])) → Sfr N p w w' → R (.returned (.bool true)) w')
    {u7 u8 u9 u10 u11 u12 u13 u14 u15 u16 u17 u18 u19 u20 u21 u22 u23 u24 u25 u26 u27 u28 u29 u30 u31 u32 u33 u34 u35 u36 u37 u38 u39 u40 u41 u42 u43 u44 u45 u46 u47 u48 u49 u50 u51 u52 u53 u54 u55 u56 u57 u58 u59 u60 u61 u62 u63 u64 u65 u66 u67 u68 : Value} :
    Code.wp Try.prog (dropAt 2 (Try.f75.body.getD .skip)) (bodyPost Try.prog Try.f75 R) ⟨#[.pointer (some ⟨p, 11, none⟩), .int .i64 (x : Nat), .int .i64 (via : Nat), undef, undef, undef, .bool false, u7, u8, u9, u10, u11, u12, u13, u14, u15, u16, u17, u18, u19, u20, u21, u22, u23, u24, u25, u26, u27, u28, u29, u30, u31, u32, u33, u34, u35, u36, u37, u38, u39, u40, u41, u42, u43, u44, u45, u46, u47, u48, u49, u50, u51, u52, u53, u54, u55, u56, u57, u58, u59, u60, u61, u62, u63, u64, u65, u66, u67, u68], []⟩ w := by
  conv => arg 2; simp only [Try.f75, Option.getD_some, cutAt, dropAt]
  obtain ⟨g, cap, hv, hNg, hgs, hc, hf⟩ := h.at (i := 0) (by decide) hz
  have hlow := h.low
  have hsz := h.size
  have hgp : ¬ (g = p) := by omega
  have hpg : ¬ (p = g) := by omega
  have hlt : x < (X 0).length := by
    rcases Nat.lt_or_ge x (X 0).length with h1 | h1
    · exact h1
    · rw [List.getElem?_eq_none h1] at hz; cases hz
  have hst := h.store (i := 0) (by decide) hlt hv (.int .i64 (via : Int))
  have c11 : w.cell? ⟨p, 11, none⟩ = some (V 0) := (h.pc 0 (by decide)).1
  rw [hv] at c11
  have c13 : (w.setCell ⟨g, x, none⟩ (.int .i64 (via : Int))).cell? ⟨p, 13, none⟩ = some (V 2) := (hst.1.pc 2 (by decide)).1
  have f13 : (w.setCell ⟨g, x, none⟩ (.int .i64 (via : Int))).frozen? ⟨p, 13, none⟩ = false := (hst.1.pc 2 (by decide)).2
  obtain ⟨g2, cap2, w2, hrun, hT⟩ := tn_app (i := 2) (by decide) hst.1 x (by rw [put1_other _ _ (by decide)]; exact hR)
  rw [put1_other _ _ (show (2 : Nat) ≠ 0 by decide)] at hrun hT
  have hput := sx_put hst.1 (i := 2) (by decide) hT
  have low2 := hT.low hst.1 (by decide) p hlow
  have d13 : w2.cell? ⟨p, 13, none⟩ = some (V 2) := by rw [World.cell?_of_block (w := w.setCell ⟨g, x, none⟩ (.int .i64 (via : Int))) low2]; exact c13
  have e13 : w2.frozen? ⟨p, 13, none⟩ = false := by rw [World.frozen?_of_block (w := w.setCell ⟨g, x, none⟩ (.int .i64 (via : Int))) low2]; exact f13
  obtain ⟨A2, c2, hv2⟩ := h.form (i := 2) (by decide)
  rw [hv2] at c13 d13 hrun
  rw [nblk_setCell] at hrun
  obtain ⟨n, hn⟩ : ∃ n, (X 0).length = n := ⟨_, rfl⟩
  rw [hn] at c11 hlt
  have HP : Hid (Sx N p (w2.setCell ⟨p, 11 + 2, none⟩ (.slice (some ⟨g2, 0, none⟩) ((X 2).length + 1) cap2)) (put1 V 2 (.slice (some ⟨g2, 0, none⟩) ((X 2).length + 1) cap2)) (put1 (put1 X 0 ((X 0).set x (.int .i64 (via : Int)))) 2 (X 2 ++ [.int .i64 (x : Int)])) ∧ Sfr N p (w.setCell ⟨g, x, none⟩ (.int .i64 (via : Int))) (w2.setCell ⟨p, 11 + 2, none⟩ (.slice (some ⟨g2, 0, none⟩) ((X 2).length + 1) cap2))) := hput
  have HS : Hid (Sfr N p w (w.setCell ⟨g, x, none⟩ (.int .i64 (via : Int)))) := hst.2
  have HR : Hid (∀ w' V', Sx N p w' V' (put1 (put1 X 0 ((X 0).set x (.int .i64 (via : Int)))) 2 (X 2 ++ [.int .i64 (x : Int)])) → Sfr N p w w' → R (.returned (.bool true)) w') := hRR
  have HRun : Hid ((Builtin.append_ #[25, 25] 25 #[.slice A2 (X 2).length c2, .slice (some ⟨w.heap.size, 0, none⟩) 1 1]).run Try.prog ((w.setCell ⟨g, x, none⟩ (.int .i64 (via : Int))).alloc (.cells #[.int .i64 (x : Int)] 3)) = .ok (.slice (some ⟨g2, 0, none⟩) ((X 2).length + 1) cap2) w2) := hrun
  have c13w : w.cell? ⟨p, 13, none⟩ = some (V 2) := (h.pc 2 (by decide)).1
  rw [hv2] at c13w
  clear hput hst hT low2 hrun hRR h c13 f13 hz hv hv2
  go_wp2_with (at_builtin; refine wpList_append_by rfl (.tmp 63) (.tmp 65) 25 25 rfl rfl rfl HRun.out ?_)
  exact HR.out _ _ HP.out.1 (HS.out.trans HP.out.2)

/-- The row of 'from', widened to hold x. -/
def wide (F : List Int) (x : Nat) : List Int := if x < F.length then F else F ++ List.replicate (x + 1 - F.length) (-1)

theorem jc_set (l : List Int) (j : Nat) (z : Int) : jc (l.set j z) = (jc l).set j (.int .i64 z) := by simp [jc, List.map_set]
theorem jc_at (l : List Int) (j : Nat) : (jc l)[j]? = (l[j]?).map (fun z => Value.int .i64 z) := by simp [jc]

set_option maxHeartbeats 2000000 in
set_option maxRecDepth 100000 in
theorem reach_yes1 (x via : Nat) (F R : List Int) (w : World) (h : Sx N p w V X) (hX0 : X 0 = jc F) (hX2 : X 2 = jc R) (hz : F[x]? = some (-1)) (hx : x ≤ 4096) (hF : F.length ≤ 4097) (hR : R.length ≤ 65536) :
    Calls Try.prog 75 #[.pointer (some ⟨p, 11, none⟩), .int .i64 (x : Nat), .int .i64 (via : Nat)] w fun e w' => e = .returned (.bool true) ∧ (∃ V', Sx N p w' V' (put1 (put1 X 0 (jc (F.set x via))) 2 (jc (R ++ [(x : Int)])))) ∧ Sfr N p w w' := by
  have hz' : (X 0)[x]? = some (.int .i64 (-1)) := by rw [hX0, jc_at, hz]; rfl
  have e1 : (X 0).set x (.int .i64 (via : Int)) = jc (F.set x via) := by rw [hX0, jc_set]
  have e2 : X 2 ++ [.int .i64 (x : Int)] = jc (R ++ [(x : Int)]) := by rw [hX2, jc_app]; rfl
  have hlen : (X 0).length = F.length := by rw [hX0, jc_len]
  have hB := @reachB N p V X x via w h hz' (by omega) (by rw [hX2, jc_len]; exact hR) (fun e w' => e = .returned (.bool true) ∧ (∃ V', Sx N p w' V' (put1 (put1 X 0 (jc (F.set x via))) 2 (jc (R ++ [(x : Int)])))) ∧ Sfr N p w w') (fun w' V' h1 h2 => ⟨rfl, ⟨V', by rw [e1, e2] at h1; exact h1⟩, h2⟩)
  have hlt : x < F.length := by
    rcases Nat.lt_or_ge x F.length with h1 | h1
    · exact h1
    · rw [List.getElem?_eq_none h1] at hz; cases hz
  obtain ⟨A, c, hv⟩ := h.form (i := 0) (by decide)
  have c11 : w.cell? ⟨p, 11, none⟩ = some (V 0) := (h.pc 0 (by decide)).1
  rw [hv, hlen] at c11
  obtain ⟨n, hn⟩ : ∃ n, F.length = n := ⟨_, rfl⟩
  rw [hn] at c11 hlt hF
  have t1 : decide ((n : Int) ≤ (x : Int)) = false := decide_eq_false (by omega)
  clear h hv hz hz' e1 e2 hX0 hX2 hn hlen
  go_enter Try.func75, Try.ntmps75
  show Code.wp Try.prog (Try.f75.body.getD .skip) _ _ _
  rw [split75]
  obtain ⟨C, hC⟩ : ∃ C, dropAt 2 (Try.f75.body.getD .skip) = C := ⟨_, rfl⟩
  rw [hC]
  have HC : Hid (dropAt 2 (Try.f75.body.getD .skip) = C) := hC
  clear hC
  conv => arg 2; simp only [Try.f75, Option.getD_some, cutAt, dropAt]
  go_wp2_with fail
  rw [← HC.out]
  exact hB

set_option maxHeartbeats 2000000 in
set_option maxRecDepth 100000 in
theorem reach_yes2 (x via : Nat) (F R : List Int) (w : World) (h : Sx N p w V X) (hX0 : X 0 = jc F) (hX2 : X 2 = jc R) (hlt : F.length ≤ x) (hx : x ≤ 4096) (hF : F.length ≤ 4097) (hR : R.length ≤ 65536) :
    Calls Try.prog 75 #[.pointer (some ⟨p, 11, none⟩), .int .i64 (x : Nat), .int .i64 (via : Nat)] w fun e w' => e = .returned (.bool true) ∧ (∃ V', Sx N p w' V' (put1 (put1 X 0 (jc ((F ++ List.replicate (x + 1 - F.length) (-1)).set x via))) 2 (jc (R ++ [(x : Int)])))) ∧ Sfr N p w w' := by
  have hlen : (X 0).length = F.length := by rw [hX0, jc_len]
  obtain ⟨A, c, hv⟩ := h.form (i := 0) (by decide)
  have c11 : w.cell? ⟨p, 11, none⟩ = some (V 0) := (h.pc 0 (by decide)).1
  have hrow := h.row 0 (by decide)
  have hsz := h.size
  have k82 := grow82 (V 0) (X 0).length (x + 1 - F.length) N (X 0) w hrow (by omega) (by omega) hsz
  rw [hv] at k82 c11
  obtain ⟨n, hn⟩ : ∃ n, F.length = n := ⟨_, rfl⟩
  rw [hlen, hn] at k82 c11
  have hki : ((x : Int) + 1) - (n : Int) = ((x + 1 - n : Nat) : Int) := by omega
  obtain ⟨k, hk⟩ : ∃ k, x + 1 - n = k := ⟨_, rfl⟩
  rw [hk] at k82 hki
  have t1 : decide ((n : Int) ≤ (x : Int)) = true := decide_eq_true (by omega)
  have key : ∀ g cap w2, Grew N w w2 (.slice A n c) n k g cap (X 0) → ∃ ys : List Value, ys.length = k ∧ w2.cell? ⟨p, 11, none⟩ = some (.slice A n c) ∧ w2.frozen? ⟨p, 11, none⟩ = false ∧ Sx N p (w2.setCell ⟨p, 11, none⟩ (.slice (some ⟨g, 0, none⟩) (x + 1) cap)) (put1 V 0 (.slice (some ⟨g, 0, none⟩) (x + 1) cap)) (put1 X 0 (jc F ++ ys)) ∧ Sfr N p w (w2.setCell ⟨p, 11, none⟩ (.slice (some ⟨g, 0, none⟩) (x + 1) cap)) ∧ x + 1 ≤ cap ∧ cap ≤ maxLen := by
    intro g cap w2 hG
    obtain ⟨ys, hy, hown⟩ := hG.own
    have hvv : V 0 = .slice A n c := by rw [hv, hlen, hn]
    have hT : Tn N w w2 (V 0) (.slice (some ⟨g, 0, none⟩) (x + 1) cap) (jc F ++ ys) := by
      refine ⟨hG.os, hG.tape, hG.output, hG.size, fun b hb _ => hG.block b hb, ?_, ?_⟩
      · have e1 : (jc F ++ ys).length = n + k := by rw [List.length_append, jc_len, hn, hy]
        rw [e1, ← hX0]
        have e2 : x + 1 = n + k := by omega
        rw [e2]
        exact hown
      · intro b hb
        have hbg : g = b := by simpa [Value.ownBlock] using hb
        subst hbg
        rw [hvv]
        exact hG.fresh
    have low := hT.low h (by decide) p h.low
    have hput := sx_put h (i := 0) (by decide) hT
    refine ⟨ys, hy, ?_, ?_, hput.1, hput.2, by have := hG.room; omega, hG.small⟩
    · rw [World.cell?_of_block (w := w) low]; exact c11
    · rw [World.frozen?_of_block (w := w) low]; exact (h.pc 0 (by decide)).2
  have HKEY : Hid (∀ g cap w2, Grew N w w2 (.slice A n c) n k g cap (X 0) → ∃ ys : List Value, ys.length = k ∧ w2.cell? ⟨p, 11, none⟩ = some (.slice A n c) ∧ w2.frozen? ⟨p, 11, none⟩ = false ∧ Sx N p (w2.setCell ⟨p, 11, none⟩ (.slice (some ⟨g, 0, none⟩) (x + 1) cap)) (put1 V 0 (.slice (some ⟨g, 0, none⟩) (x + 1) cap)) (put1 X 0 (jc F ++ ys)) ∧ Sfr N p w (w2.setCell ⟨p, 11, none⟩ (.slice (some ⟨g, 0, none⟩) (x + 1) cap)) ∧ x + 1 ≤ cap ∧ cap ≤ maxLen) := key
  have HX2 : Hid (X 2 = jc R) := hX2
  rw [hn] at hlt hF ⊢
  have HN : Hid (F.length = n) := hn
  clear key h hrow hX0 hX2 hv hn hlen
  go_enter Try.func75, Try.ntmps75
  show Code.wp Try.prog (Try.f75.body.getD .skip) _ _ _
  rw [split75]
  obtain ⟨C, hC⟩ : ∃ C, dropAt 2 (Try.f75.body.getD .skip) = C := ⟨_, rfl⟩
  rw [hC]
  have HC : Hid (dropAt 2 (Try.f75.body.getD .skip) = C) := hC
  clear hC
  conv => arg 2; simp only [Try.f75, Option.getD_some, cutAt, dropAt]
  go_wp2_with fail
  refine k82.mono ?_
  rintro e w2 ⟨g, cap, rfl, hG⟩
  obtain ⟨ys, hy, d11, e11, hS, hFr, hcap, hcm⟩ := HKEY.out g cap w2 hG
  simp only [maxLen] at hcm
  have HFr : Hid (Sfr N p w (w2.setCell ⟨p, 11, none⟩ (.slice (some ⟨g, 0, none⟩) (x + 1) cap))) := hFr
  have HS : Hid (Sx N p (w2.setCell ⟨p, 11, none⟩ (.slice (some ⟨g, 0, none⟩) (x + 1) cap)) (put1 V 0 (.slice (some ⟨g, 0, none⟩) (x + 1) cap)) (put1 X 0 (jc F ++ ys))) := hS
  clear k82 HKEY hG hFr hS c11

  dsimp only
  go_wp2_with fail
  obtain ⟨V2, hV2⟩ : ∃ V2, put1 V 0 (.slice (some ⟨g, 0, none⟩) (x + 1) cap) = V2 := ⟨_, rfl⟩
  have hV20 : V2 0 = .slice (some ⟨g, 0, none⟩) (x + 1) cap := by rw [← hV2, put1_same]
  have hS := HS.out
  rw [hV2] at hS
  clear HS hV2 d11 e11
  obtain ⟨w3, hw3⟩ : ∃ w3, w2.setCell ⟨p, 11, none⟩ (.slice (some ⟨g, 0, none⟩) (x + 1) cap) = w3 := ⟨_, rfl⟩
  rw [hw3] at HFr hS ⊢
  clear hw3
  go_loopw [8] (fun i wr => ∃ j : Nat, j ≤ k ∧ i = .int .i64 ((n + j : Nat) : Int) ∧ Sx N p wr V2 (put1 X 0 (jc F ++ (jc (List.replicate j (-1)) ++ ys.drop j))) ∧ Sfr N p w wr) (fun i _ => n + k - (intOf i).toNat)
  case atStart => exact ⟨0, by omega, by simp, by simpa [jc] using hS, HFr.out⟩
  case round =>
    obtain ⟨j, hj, rfl, hs, hfr⟩ := hrel
    clear hS HFr
    have HF2 : Hid (Sfr N p w wr) := hfr
    have hl0 : (jc F ++ (jc (List.replicate j (-1)) ++ ys.drop j)).length = x + 1 := by
      simp only [List.length_append, jc_len, List.length_replicate, List.length_drop, hy, HN.out]
      omega
    by_cases hjk : j < k
    · have hc11 : wr.cell? ⟨p, 11, none⟩ = some (V2 0) := (hs.pc 0 (by decide)).1
      rw [hV20] at hc11
      obtain ⟨u, hu⟩ : ∃ u, (put1 X 0 (jc F ++ (jc (List.replicate j (-1)) ++ ys.drop j)) 0)[n + j]? = some u := by
        rw [put1_same]
        exact ⟨_, List.getElem?_eq_getElem (by omega)⟩
      obtain ⟨g', cap', e1, hNg, hgs, hcell, hfz⟩ := hs.at (i := 0) (by decide) hu
      rw [hV20] at e1
      simp only [Value.slice.injEq, Option.some.injEq, Addr.mk.injEq] at e1
      obtain ⟨⟨rfl, _⟩, _, rfl⟩ := e1
      have hst := hs.store (i := 0) (by decide) (j := n + j) (by rw [put1_same]; omega) (g := g) (cap := cap) (by rw [put1_same, hl0]; exact hV20) (.int .i64 (-1))
      rw [put1_same] at hst
      have e2 : put1 (put1 X 0 (jc F ++ (jc (List.replicate j (-1)) ++ ys.drop j))) 0 ((jc F ++ (jc (List.replicate j (-1)) ++ ys.drop j)).set (n + j) (.int .i64 (-1))) = put1 X 0 (jc F ++ (jc (List.replicate (j + 1) (-1)) ++ ys.drop (j + 1))) := by
        funext i
        unfold put1
        by_cases e : i = 0
        · simp only [e, if_true]
          rw [List.set_append_right _ _ (by rw [jc_len, HN.out]; omega), jc_len, HN.out]
          congr 1
          rw [List.set_append_right _ _ (by rw [jc_len]; simp), jc_len, List.length_replicate]
          have e4 : n + j - n - j = 0 := by omega
          rw [e4, List.replicate_succ', jc_app, List.append_assoc]
          congr 1
          have e5 : ys.drop j = ys[j]'(by omega) :: ys.drop (j + 1) := List.drop_eq_getElem_cons (by omega)
          rw [e5]
          rfl
        · simp only [e, if_false]
      rw [e2] at hst
      have HST : Hid (Sx N p (wr.setCell ⟨g, n + j, none⟩ (.int .i64 (-1))) V2 (put1 X 0 (jc F ++ (jc (List.replicate (j + 1) (-1)) ++ ys.drop (j + 1)))) ∧ Sfr N p wr (wr.setCell ⟨g, n + j, none⟩ (.int .i64 (-1)))) := hst
      have t3 : decide (((n + j : Nat) : Int) ≤ (x : Int)) = true := decide_eq_true (by omega)
      clear hst hs hfr hu e2 hl0
      obtain ⟨q, hq⟩ : ∃ q, n + j = q := ⟨_, rfl⟩
      rw [hq] at hcell hfz t3 HST ⊢
      go_wp2
      go_roundw
      case rel => exact ⟨j + 1, by omega, by first | (simp; omega) | go_num, HST.out.1, HF2.out.trans HST.out.2⟩
      case measure => simp [intOf]; omega
    · obtain rfl : j = k := by omega
      have e3 : ys.drop j = [] := List.drop_eq_nil_of_le (by omega)
      rw [e3, List.append_nil, ← jc_app] at hs
      have hk2 : j = x + 1 - n := by omega
      have hz : (put1 X 0 (jc (F ++ List.replicate j (-1))) 0)[x]? = some (.int .i64 (-1)) := by
        rw [put1_same, jc_at, List.getElem?_append_right (by rw [HN.out]; exact hlt), List.getElem?_replicate, if_pos (by rw [HN.out]; omega)]
        rfl
      have hB := @reachB N p V2 (put1 X 0 (jc (F ++ List.replicate j (-1)))) x via wr hs hz (by omega) (by rw [put1_other _ _ (by decide), HX2.out, jc_len]; exact hR) (fun e w' => e = .returned (.bool true) ∧ (∃ V', Sx N p w' V' (put1 (put1 X 0 (jc ((F ++ List.replicate (x + 1 - n) (-1)).set x via))) 2 (jc (R ++ [(x : Int)])))) ∧ Sfr N p w w') (by
        intro w' V' h1 h2
        refine ⟨rfl, ⟨V', ?_⟩, HF2.out.trans h2⟩
        rw [put1_same, put1_other _ _ (show (2 : Nat) ≠ 0 by decide), HX2.out, ← jc_set] at h1
        have e6 : jc R ++ [.int .i64 (x : Int)] = jc (R ++ [(x : Int)]) := by rw [jc_app]; rfl
        have e7 : put1 (put1 X 0 (jc (F ++ List.replicate j (-1)))) 0 (jc ((F ++ List.replicate j (-1)).set x (via : Int))) = put1 X 0 (jc ((F ++ List.replicate j (-1)).set x (via : Int))) := by
          funext i
          unfold put1
          by_cases e : i = 0 <;> simp [e]
        rw [e6, e7, hk2] at h1
        exact h1)
      have t3 : decide (((n + j : Nat) : Int) ≤ (x : Int)) = false := decide_eq_false (by omega)
      clear hs hz hfr hl0 hk2 e3
      obtain ⟨q, hq⟩ : ∃ q, n + j = q := ⟨_, rfl⟩
      rw [hq] at t3 ⊢
      have hqx : x < q := by omega
      clear hq hk hki hy hj hjk
      go_wp2_with fail
      rw [← HC.out]
      exact hB
end Go.Proofs.Qxb6616109a
