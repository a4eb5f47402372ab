import Derived.Test.Qxb6616151aMatch
import Derived.Test.Qxb6616151aLaw4
namespace Go.Proofs.Qxb6616151a
open Go.RowKit Go.Deep Go.Joins

theorem getD_mid (a b c : List Int) (j : Nat) (h : j < b.length) : (a ++ (b ++ c)).getD (a.length + j) 0 = b.getD j 0 := by
  rw [List.getD_eq_getElem?_getD, List.getElem?_append_right (by omega), Nat.add_sub_cancel_left, List.getElem?_append_left h]
  rfl

/-- What the law reads in the end: 'want', and r2 in block g: l, then the two frames. -/
structure Fin3 (w w4 : World) (l : List Int) (s t : ByteArray) (A1 : Option Addr) (g : Nat) : Prop where
  below : Below w.heap.size w w4
  want : Cells w4 A1 l.length (fun i => .int .u8 (l.getD i 0))
  pre : ∀ i, i < l.length → w4.cell? ⟨g, i, none⟩ = some (.int .u8 (l.getD i 0))
  us : ∀ j, j < (uvF 2 s.size).length → w4.cell? ⟨g, l.length + j, none⟩ = some (.int .u8 ((uvF 2 s.size).getD j 0))
  bs : ∀ j, j < s.size → w4.cell? ⟨g, l.length + (uvF 2 s.size).length + j, none⟩ = some (.int .u8 ((bys s).getD j 0))
  ut : ∀ j, j < (uvF 2 t.size).length → w4.cell? ⟨g, l.length + (uvF 2 s.size).length + s.size + j, none⟩ = some (.int .u8 ((uvF 2 t.size).getD j 0))
  bt : ∀ j, j < t.size → w4.cell? ⟨g, l.length + (uvF 2 s.size).length + s.size + (uvF 2 t.size).length + j, none⟩ = some (.int .u8 ((bys t).getD j 0))

theorem fin3 {w w1 w2 w3 w4 : World} {l : List Int} {s t : ByteArray} {A1 A2 : Option Addr} {c1 c2 g cg g2 cg2 : Nat}
    (h1 : Owns w1 w.heap.size (.slice A1 l.length c1) l) (g1 : w.grownBy w1 none) (h2 : Owns w2 w1.heap.size (.slice A2 l.length c2) l) (k2 : w1.grownBy w2 none)
    (h3 : Owns w3 w1.heap.size (.slice (some ⟨g, 0, none⟩) (l ++ frm s).length cg) (l ++ frm s)) (g3 : Grew w2 w3 (.slice A2 l.length c2) (.slice (some ⟨g, 0, none⟩) (l ++ frm s).length cg))
    (h4 : Owns w4 w1.heap.size (.slice (some ⟨g2, 0, none⟩) (l ++ frm s ++ frm t).length cg2) (l ++ frm s ++ frm t)) (g4 : Grew w3 w4 (.slice (some ⟨g, 0, none⟩) (l ++ frm s).length cg) (.slice (some ⟨g2, 0, none⟩) (l ++ frm s ++ frm t).length cg2)) :
    Fin3 w w4 l s t A1 g2 := by
  have s1 := g1.size
  have s2 := k2.size
  have s3 := g3.grow.size
  have a2 : Owns w2 w.heap.size (.slice A1 l.length c1) l := h1.grown k2
  have a3 : Owns w3 w.heap.size (.slice A1 l.length c1) l := a2.kept g3 (fun b e1 e2 => by have := h1.lt b e1; have := h2.lt b e2; omega)
  have a4 : Owns w4 w.heap.size (.slice A1 l.length c1) l := a3.kept g4 (fun b e1 e2 => by have := h1.lt b e1; have := h3.lt b e2; omega)
  have b1 : Below w.heap.size w w1 := (Below.refl _ _).grown g1 (Nat.le_refl _) (by simp)
  have b2 : Below w.heap.size w w2 := b1.grown k2 (by omega) (by simp)
  have b3 : Below w.heap.size w w3 := grew_below b2 (by omega) g3 (fun b hb => by have := (h2.lt b hb).1; omega)
  have b4 : Below w.heap.size w w4 := grew_below b3 (by omega) g4 (fun b hb => by have := (h3.lt b hb).1; omega)
  obtain ⟨A, c, hv, _, _, _, hcw⟩ := a4.cells
  simp only [Value.slice.injEq] at hv
  obtain ⟨rfl, _, rfl⟩ := hv
  have hr := (owns_at h4).2.2
  have hlen : (l ++ frm s ++ frm t).length = l.length + (uvF 2 s.size).length + s.size + (uvF 2 t.size).length + t.size := by
    unfold frm; simp only [List.length_append, bys_length]; omega
  have bl := bys_length
  refine ⟨b4, hcw, fun i hi => ?_, fun j hj => ?_, fun j hj => ?_, fun j hj => ?_, fun j hj => ?_⟩
  · rw [hr i (by omega), List.append_assoc, List.getD_eq_getElem?_getD, List.getElem?_append_left hi]; rfl
  · rw [hr _ (by omega)]
    have e : l ++ frm s ++ frm t = l ++ (uvF 2 s.size ++ (bys s ++ frm t)) := by unfold frm; simp only [List.append_assoc]
    rw [e, getD_mid l _ _ j hj]
  · rw [hr _ (by omega)]
    have e : l ++ frm s ++ frm t = (l ++ uvF 2 s.size) ++ (bys s ++ frm t) := by unfold frm; simp only [List.append_assoc]
    have e2 : l.length + (uvF 2 s.size).length + j = (l ++ uvF 2 s.size).length + j := by simp
    rw [e, e2, getD_mid _ _ _ j (by rw [bl]; exact hj)]
  · rw [hr _ (by omega)]
    have e : l ++ frm s ++ frm t = (l ++ uvF 2 s.size ++ bys s) ++ (uvF 2 t.size ++ bys t) := by unfold frm; simp only [List.append_assoc]
    have e2 : l.length + (uvF 2 s.size).length + s.size + j = (l ++ uvF 2 s.size ++ bys s).length + j := by simp only [List.length_append, bl]
    rw [e, e2, getD_mid _ _ _ j hj]
  · rw [hr _ (by omega)]
    have e : l ++ frm s ++ frm t = (l ++ uvF 2 s.size ++ bys s ++ uvF 2 t.size) ++ (bys t ++ []) := by unfold frm; simp only [List.append_assoc, List.append_nil]
    have e2 : l.length + (uvF 2 s.size).length + s.size + (uvF 2 t.size).length + j = (l ++ uvF 2 s.size ++ bys s ++ uvF 2 t.size).length + j := by simp only [List.length_append, bl]
    rw [e, e2, getD_mid _ _ _ j (by rw [bl]; exact hj)]

set_option maxRecDepth 10000 in
set_option maxHeartbeats 4000000 in
theorem walk3 (A : Option Addr) (c : Nat) (l : List Int) (s t : ByteArray) (w : World) (hA : A = none → l.length = 0 ∧ c = 0) (hl : l.length ≤ maxLen) (hs : s.size ≤ maxLen) (ht : t.size ≤ maxLen)
    (hc : Cells w A l.length (fun i => .int .u8 (l.getD i 0))) :
    Calls Try.prog 3 #[.slice A l.length c, .string s, .string t] w fun e w' => e = .returned (.bool true) ∧ Below w.heap.size w w' := by
  have hb5 := bytes5 A l.length c s t w hl hs ht
  obtain ⟨n, hn⟩ : ∃ n, l.length = n := ⟨_, rfl⟩
  rw [hn] at hb5 hl hA hc ⊢
  have HN : Hid (l.length = n) := hn
  have HA : Hid (A = none → n = 0 ∧ c = 0) := hA
  have HCl : Hid (Cells w A n (fun i => .int .u8 (l.getD i 0))) := hc
  unfold maxLen at hl hs ht
  clear hn hA hc
  go_enter Try.func3, Try.ntmps3
  go_wp2_with fail
  refine hb5.mono ?_
  rintro e w' ⟨⟨b, rfl, _⟩, hw⟩
  have hw := hw.symm
  subst hw
  clear hb5
  dsimp only
  cases b
  · go_wp2
    go_ret
    exact ⟨rfl, Below.refl _ _⟩
  by_cases t0 : 262144 < n
  · go_wp2
    go_ret
    exact ⟨rfl, Below.refl _ _⟩
  by_cases t1 : 262144 < s.size
  · go_wp2
    go_ret
    exact ⟨rfl, Below.refl _ _⟩
  by_cases t2 : 262144 < t.size
  · go_wp2
    go_ret
    exact ⟨rfl, Below.refl _ _⟩
  go_wp2_with fail
  refine (clone6 A n c l w HA.out HN.out (by omega) HCl.out).mono ?_
  rintro e w1 ⟨A1, c1, rfl, h1, g1⟩
  dsimp only
  have H1 : Hid (Owns w1 w.heap.size (.slice A1 n c1) l) := h1
  have G1 : Hid (w.grownBy w1 none) := g1
  clear h1 g1
  go_wp2_with fail
  refine (clone6 A n c l w1 HA.out HN.out (by omega) (HCl.out.below ((Below.refl _ _).grown G1.out (Nat.le_refl _) (by simp)) (Nat.le_refl _))).mono ?_
  rintro e w2 ⟨A2, c2, rfl, h2, g2⟩
  dsimp only
  have H2 : Hid (Owns w2 w1.heap.size (.slice A2 n c2) l) := h2
  have G2 : Hid (w1.grownBy w2 none) := g2
  clear h2 g2
  have fls := frm_len s
  have flt := frm_len t
  have hls := uvF_len 2 s.size
  have hlt := uvF_len 2 t.size
  go_wp2_with fail
  refine (put7 w1.heap.size _ l s w2 (by omega) H2.out (by rw [HN.out]; omega) G2.out.size).mono ?_
  rintro e w3 ⟨g, cg, rfl, h3, g3⟩
  dsimp only
  obtain ⟨nr, hnr⟩ : ∃ nr, (l ++ frm s).length = nr := ⟨_, rfl⟩
  have HR : Hid ((l ++ frm s).length = nr) := hnr
  have H3 : Hid (Owns w3 w1.heap.size (.slice (some ⟨g, 0, none⟩) nr cg) (l ++ frm s)) := by rw [← hnr]; exact h3
  have G3 : Hid (Grew w2 w3 (.slice A2 n c2) (.slice (some ⟨g, 0, none⟩) nr cg)) := by rw [← hnr]; exact g3
  rw [hnr]
  have hnr2 : nr ≤ 1048576 := by rw [← hnr, List.length_append, HN.out]; omega
  clear h3 g3 hnr
  go_wp2_with fail
  refine (put7 w1.heap.size _ (l ++ frm s) t w3 (by omega) H3.out (by rw [HR.out]; omega) (Nat.le_trans G2.out.size G3.out.grow.size)).mono ?_
  rintro e w4 ⟨g2, cg2, rfl, h4, g4⟩
  dsimp only
  obtain ⟨N, hN⟩ : ∃ N, (l ++ frm s ++ frm t).length = N := ⟨_, rfl⟩
  have HNN : Hid ((l ++ frm s ++ frm t).length = N) := hN
  have F := fin3 (w := w) (l := l) (s := s) (t := t) (by rw [HN.out]; exact H1.out) G1.out (by rw [HN.out]; exact H2.out) G2.out (by rw [HR.out]; exact H3.out) (by rw [HN.out, HR.out]; exact G3.out) h4 (by rw [HR.out]; exact g4)
  have hcg : N ≤ cg2 := by rw [← hN]; exact (owns_at h4).2.1
  rw [hN]
  clear h4 g4 hN H1 H2 H3 G1 G2 G3 HA HCl
  obtain ⟨us, hus⟩ : ∃ us, (uvF 2 s.size).length = us := ⟨_, rfl⟩
  obtain ⟨ut, hut⟩ : ∃ ut, (uvF 2 t.size).length = ut := ⟨_, rfl⟩
  have e1 : nr = n + us + s.size := by rw [← HR.out, ← HN.out, ← hus]; unfold frm; simp only [List.length_append, bys_length]; omega
  have e2 : N = n + us + s.size + ut + t.size := by rw [← HNN.out, ← HN.out, ← hus, ← hut]; unfold frm; simp only [List.length_append, bys_length]; omega
  rw [hus] at hls
  rw [hut] at hlt
  have HF : Hid (Fin3 w w4 l s t A1 g2) := F
  have Hus : Hid ((uvF 2 s.size).length = us) := hus
  have Hut : Hid ((uvF 2 t.size).length = ut) := hut
  clear F hus hut fls flt HR HNN
  subst e1
  subst e2
  go_wp2_with fail
  have q1 : Cells w4 (some ⟨g2, 0, none⟩) n (fun i => .int .u8 (l.getD i 0)) := fun i hi => ⟨g2, 0, rfl, by
    rw [Nat.zero_add]; exact HF.out.pre i (by rw [HN.out]; exact hi)⟩
  have q2 : Cells w4 A1 n (fun i => .int .u8 (l.getD i 0)) := by have := HF.out.want; rw [HN.out] at this; exact this
  refine (eq8 (some ⟨g2, 0, none⟩) A1 n n cg2 c1 l l w4 HN.out HN.out (by omega) (by omega) q1 q2).mono ?_
  rintro e w' ⟨rfl, d1, hw⟩
  subst hw
  rw [sameL_true rfl]
  dsimp only
  clear q1 q2
  go_wp2_with fail
  refine (rd9 g2 (n + us + s.size + ut + t.size) cg2 n s.size (w4.drewN d1) (by omega) (by omega) (by rw [Hus.out]; omega) (by have h := HF.out.us; rw [HN.out] at h; exact h)).mono ?_
  rintro e w' ⟨rfl, hw⟩
  subst hw
  rw [Hus.out]
  dsimp only
  go_wp2_with fail
  have h10 := match10 g2 (n + us + s.size + ut + t.size) cg2 (n + us) s (w4.drewN d1) (by omega) (by omega) (by have h := HF.out.bs; rw [HN.out, Hus.out] at h; exact h)
  simp only [Int.natCast_add] at h10
  refine h10.mono ?_
  rintro e w' ⟨rfl, d2, hw⟩
  subst hw
  rw [drewN_add]
  dsimp only
  clear h10
  go_wp2_with fail
  have h9 := rd9 g2 (n + us + s.size + ut + t.size) cg2 (n + us + s.size) t.size (w4.drewN (d1 + d2)) (by omega) (by omega) (by rw [Hut.out]; omega) (by have h := HF.out.ut; rw [HN.out, Hus.out] at h; exact h)
  rw [Hut.out] at h9
  simp only [Int.natCast_add] at h9
  refine h9.mono ?_
  rintro e w' ⟨rfl, hw⟩
  subst hw
  dsimp only
  clear h9
  go_wp2_with fail
  have h10 := match10 g2 (n + us + s.size + ut + t.size) cg2 (n + us + s.size + ut) t (w4.drewN (d1 + d2)) (by omega) (by omega) (by have h := HF.out.bt; rw [HN.out, Hus.out, Hut.out] at h; exact h)
  simp only [Int.natCast_add] at h10
  refine h10.mono ?_
  rintro e w' ⟨rfl, d3, hw⟩
  subst hw
  rw [drewN_add]
  dsimp only
  clear h10
  go_wp2
  go_ret
  refine ⟨?_, below_drewN HF.out.below _⟩
  rfl
end Go.Proofs.Qxb6616151a
