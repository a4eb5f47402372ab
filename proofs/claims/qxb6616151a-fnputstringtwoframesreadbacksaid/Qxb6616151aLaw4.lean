import Derived.Test.Qxb6616151aInj
import Derived.Test.Qxb6616151aClone
namespace Go.Proofs.Qxb6616151a
open Go.RowKit Go.Deep Go.Joins

theorem Owns.kept {w w' : World} {lo : Nat} {v v2 v3 : Value} {l : List Int} (h : Owns w lo v l) (hg : Grew w w' v2 v3) (hne : ∀ b, v.ownBlock = some b → v2.ownBlock = some b → False) : Owns w' lo v l := by
  refine World.ownsRow.kept h hg.grow ?_
  cases hb : v.ownBlock with
  | none => exact Or.inl rfl
  | some b => exact Or.inr (fun e => hne b hb e.symm)

theorem Owns.grown {w w' : World} {lo : Nat} {v : Value} {l : List Int} (h : Owns w lo v l) (hg : w.grownBy w' none) : Owns w' lo v l := by
  refine World.ownsRow.kept h hg ?_
  cases hb : v.ownBlock with
  | none => exact Or.inl rfl
  | some b => exact Or.inr (by simp)

theorem Owns.lt {w : World} {lo : Nat} {v : Value} {l : List Int} (h : Owns w lo v l) : ∀ b, v.ownBlock = some b → lo ≤ b ∧ b < w.heap.size := World.ownsRow.lt h

theorem owns_nil (w : World) (lo : Nat) : Owns w lo (.slice none 0 0) [] := World.ownsRow_nil _ _ _ _

theorem grew_below {B : Nat} {w0 w w' : World} {v v' : Value} (hb : Below B w0 w) (hB : B ≤ w.heap.size) (hg : Grew w w' v v') (hv : ∀ b, v.ownBlock = some b → B ≤ b) : Below B w0 w' := hb.grown hg.grow hB (fun k hk => hv k hk)

theorem toList_inj {s t : ByteArray} (h : s.toList = t.toList) : s = t := by
  rw [ByteArray.toList_eq, ByteArray.toList_eq] at h
  cases s; cases t
  simp only [ByteArray.mk.injEq]
  exact Array.toList_inj.1 h

theorem same_iff (s t : ByteArray) : (sameL (frm s) (frm t) == (s.toList == t.toList)) = true := by
  by_cases h : s = t
  · subst h; simp [sameL]
  · have h1 : frm s ≠ frm t := fun e => h (frm_inj e)
    have h2 : (s.toList == t.toList) = false := by
      rw [beq_eq_false_iff_ne]
      exact fun e => h (toList_inj e)
    rw [sameL_false h1, h2]
    rfl

/-- The rows that the law reads at the end. -/
structure Fin4 (w w5 : World) (l : List Int) (s t : ByteArray) (A1 : Option Addr) (c1 g cg gs cs gt ct : Nat) : Prop where
  below : Below w.heap.size w w5
  want : Cells w5 A1 l.length (fun i => .int .u8 (l.getD i 0))
  r : ∀ i, i < (l ++ frm s).length → w5.cell? ⟨g, i, none⟩ = some (.int .u8 ((l ++ frm s).getD i 0))
  rc : (l ++ frm s).length ≤ cg
  ps : ∀ i, i < (frm s).length → w5.cell? ⟨gs, i, none⟩ = some (.int .u8 ((frm s).getD i 0))
  pt : ∀ i, i < (frm t).length → w5.cell? ⟨gt, i, none⟩ = some (.int .u8 ((frm t).getD i 0))

theorem owns_at {w : World} {lo g n cap : Nat} {l : List Int} (h : Owns w lo (.slice (some ⟨g, 0, none⟩) n cap) l) : n = l.length ∧ l.length ≤ cap ∧ ∀ i, i < l.length → w.cell? ⟨g, i, none⟩ = some (.int .u8 (l.getD i 0)) := by
  obtain ⟨A, c, hv, h1, _, _, hc⟩ := h.cells
  simp only [Value.slice.injEq] at hv
  obtain ⟨rfl, rfl, rfl⟩ := hv
  refine ⟨rfl, h1, fun i hi => ?_⟩
  obtain ⟨b, off, e, hcell⟩ := hc i hi
  simp only [Option.some.injEq, Addr.mk.injEq] at e
  obtain ⟨rfl, rfl, _⟩ := e
  simpa using hcell

theorem fin4 {w w1 w2 w3 w4 w5 : World} {l : List Int} {s t : ByteArray} {A1 A2 : Option Addr} {c1 c2 g cg gs cs gt ct : Nat}
    (h1 : Owns w1 w.heap.size (.slice A1 l.length c1) l) (g1 : w.grownBy w1 none) (h2 : Owns w2 w1.heap.size (.slice A2 l.length c2) l) (g2 : w1.grownBy w2 none)
    (h3 : Owns w3 w1.heap.size (.slice (some ⟨g, 0, none⟩) (l ++ frm s).length cg) (l ++ frm s)) (g3 : Grew w2 w3 (.slice A2 l.length c2) (.slice (some ⟨g, 0, none⟩) (l ++ frm s).length cg))
    (h4 : Owns w4 w3.heap.size (.slice (some ⟨gs, 0, none⟩) ([] ++ frm s).length cs) ([] ++ frm s)) (g4 : Grew w3 w4 (.slice none 0 0) (.slice (some ⟨gs, 0, none⟩) ([] ++ frm s).length cs))
    (h5 : Owns w5 w4.heap.size (.slice (some ⟨gt, 0, none⟩) ([] ++ frm t).length ct) ([] ++ frm t)) (g5 : Grew w4 w5 (.slice none 0 0) (.slice (some ⟨gt, 0, none⟩) ([] ++ frm t).length ct)) :
    Fin4 w w5 l s t A1 c1 g cg gs cs gt ct := by
  have s1 := g1.size
  have s2 := g2.size
  have s3 := g3.grow.size
  have s4 := g4.grow.size
  have a2 : Owns w2 w.heap.size (.slice A1 l.length c1) l := h1.grown g2
  have a3 : Owns w3 w.heap.size (.slice A1 l.length c1) l := a2.kept g3 (fun b e1 e2 => by have := h1.lt b e1; have := h2.lt b e2; omega)
  have a5 : Owns w5 w.heap.size (.slice A1 l.length c1) l := (a3.grown g4.grow).grown g5.grow
  have r5 := (h3.grown g4.grow).grown g5.grow
  have p5 := h4.grown g5.grow
  simp only [List.nil_append] at p5 h5
  have b1 : Below w.heap.size w w1 := (Below.refl _ _).grown g1 (Nat.le_refl _) (by simp)
  have b2 : Below w.heap.size w w2 := b1.grown g2 (by omega) (by simp)
  have b3 : Below w.heap.size w w3 := grew_below b2 (by omega) g3 (fun b hb => by have := (h2.lt b hb).1; omega)
  have b4 : Below w.heap.size w w4 := grew_below b3 (by omega) g4 (fun b hb => by simp [Value.ownBlock] at hb)
  have b5 : Below w.heap.size w w5 := grew_below b4 (by omega) g5 (fun b hb => by simp [Value.ownBlock] at hb)
  obtain ⟨A, c, hv, _, _, _, hcw⟩ := a5.cells
  simp only [Value.slice.injEq] at hv
  obtain ⟨rfl, _, rfl⟩ := hv
  exact ⟨b5, hcw, (owns_at r5).2.2, (owns_at r5).2.1, (owns_at p5).2.2, (owns_at h5).2.2⟩

set_option maxRecDepth 10000 in
set_option maxHeartbeats 2000000 in
theorem walk4 (A : Option Addr) (c : Nat) (l : List Int) (s t : ByteArray) (w : World) (hA : A = none → l.length = 0 ∧ c = 0) (hl : l.length ≤ maxLen) (hs : s.size ≤ maxLen) (ht : t.size ≤ maxLen)
    (hc : Cells w A l.length (fun i => .int .u8 (l.getD i 0))) :
    Calls Try.prog 4 #[.slice A l.length c, .string s, .string t] w fun e w' => e = .returned (.bool true) ∧ Below w.heap.size w w' := by
  have hb11 := bytes11 A l.length c s t w hl hs ht
  obtain ⟨n, hn⟩ : ∃ n, l.length = n := ⟨_, rfl⟩
  rw [hn] at hb11 hl hA hc ⊢
  have HN : Hid (l.length = n) := hn
  have HA : Hid (A = none → n = 0 ∧ c = 0) := hA
  have HCl : Hid (Cells w A n (fun i => .int .u8 (l.getD i 0))) := hc
  unfold maxLen at hl hs ht
  clear hn hA hc
  go_enter Try.func4, Try.ntmps4
  go_wp2_with fail
  refine hb11.mono ?_
  rintro e w' ⟨⟨b, rfl, _⟩, hw⟩
  have hw := hw.symm
  subst hw
  clear hb11
  dsimp only
  cases b
  · go_wp2
    go_ret
    exact ⟨rfl, Below.refl _ _⟩
  by_cases t0 : 262144 < n
  · go_wp2
    go_ret
    exact ⟨rfl, Below.refl _ _⟩
  by_cases t1 : 262144 < s.size
  · go_wp2
    go_ret
    exact ⟨rfl, Below.refl _ _⟩
  by_cases t2 : 262144 < t.size
  · go_wp2
    go_ret
    exact ⟨rfl, Below.refl _ _⟩
  go_wp2_with fail
  refine (clone6 A n c l w HA.out HN.out (by omega) HCl.out).mono ?_
  rintro e w1 ⟨A1, c1, rfl, h1, g1⟩
  dsimp only
  have H1 : Hid (Owns w1 w.heap.size (.slice A1 n c1) l) := h1
  have G1 : Hid (w.grownBy w1 none) := g1
  clear h1 g1
  go_wp2_with fail
  refine (clone6 A n c l w1 HA.out HN.out (by omega) (HCl.out.below ((Below.refl _ _).grown G1.out (Nat.le_refl _) (by simp)) (Nat.le_refl _))).mono ?_
  rintro e w2 ⟨A2, c2, rfl, h2, g2⟩
  dsimp only
  have H2 : Hid (Owns w2 w1.heap.size (.slice A2 n c2) l) := h2
  have G2 : Hid (w1.grownBy w2 none) := g2
  clear h2 g2
  go_wp2_with fail
  refine (put7 w1.heap.size _ l s w2 (by omega) H2.out (by rw [HN.out]; omega) G2.out.size).mono ?_
  rintro e w3 ⟨g, cg, rfl, h3, g3⟩
  dsimp only
  obtain ⟨nr, hnr⟩ : ∃ nr, (l ++ frm s).length = nr := ⟨_, rfl⟩
  have HR : Hid ((l ++ frm s).length = nr) := hnr
  have H3 : Hid (Owns w3 w1.heap.size (.slice (some ⟨g, 0, none⟩) nr cg) (l ++ frm s)) := by rw [← hnr]; exact h3
  have G3 : Hid (Grew w2 w3 (.slice A2 n c2) (.slice (some ⟨g, 0, none⟩) nr cg)) := by rw [← hnr]; exact g3
  rw [hnr]
  clear h3 g3 hnr
  go_wp2_with fail
  refine (put7 w3.heap.size _ [] s w3 (by omega) (owns_nil _ _) (by simp) (Nat.le_refl _)).mono ?_
  rintro e w4 ⟨gs, cs, rfl, h4, g4⟩
  dsimp only
  obtain ⟨ns, hns⟩ : ∃ ns, ([] ++ frm s).length = ns := ⟨_, rfl⟩
  have HS : Hid (([] ++ frm s).length = ns) := hns
  have H4 : Hid (Owns w4 w3.heap.size (.slice (some ⟨gs, 0, none⟩) ns cs) ([] ++ frm s)) := by rw [← hns]; exact h4
  have G4 : Hid (Grew w3 w4 (.slice none 0 0) (.slice (some ⟨gs, 0, none⟩) ns cs)) := by rw [← hns]; exact g4
  rw [hns]
  clear h4 g4 hns
  go_wp2_with fail
  refine (put7 w4.heap.size _ [] t w4 (by omega) (owns_nil _ _) (by simp) (Nat.le_refl _)).mono ?_
  rintro e w5 ⟨gt, ct, rfl, h5, g5⟩
  dsimp only
  obtain ⟨nt, hnt⟩ : ∃ nt, ([] ++ frm t).length = nt := ⟨_, rfl⟩
  have HT : Hid (([] ++ frm t).length = nt) := hnt
  have H5 : Hid (Owns w5 w4.heap.size (.slice (some ⟨gt, 0, none⟩) nt ct) ([] ++ frm t)) := by rw [← hnt]; exact h5
  have G5 : Hid (Grew w4 w5 (.slice none 0 0) (.slice (some ⟨gt, 0, none⟩) nt ct)) := by rw [← hnt]; exact g5
  rw [hnt]
  clear h5 g5 hnt
  have F := fin4 (w := w) (l := l) (s := s) (t := t) (by rw [HN.out]; exact H1.out) G1.out (by rw [HN.out]; exact H2.out) G2.out (by rw [HR.out]; exact H3.out) (by rw [HN.out, HR.out]; exact G3.out) (by rw [HS.out]; exact H4.out) (by rw [HS.out]; exact G4.out) (by rw [HT.out]; exact H5.out) (by rw [HT.out]; exact G5.out)
  have HF : Hid (Fin4 w w5 l s t A1 c1 g cg gs cs gt ct) := F
  have e1 : nr = n + ns := by rw [← HN.out, ← HR.out, ← HS.out]; simp
  have e2 : s.size < ns := by rw [← HS.out]; simpa using (frm_len s).1
  have e3 : ns ≤ s.size + 3 := by rw [← HS.out]; simpa using (frm_len s).2
  have e4 : nt ≤ t.size + 3 := by rw [← HT.out]; simpa using (frm_len t).2
  have e5 : nr ≤ cg := by rw [← HR.out]; exact F.rc
  subst e1
  clear F H1 H2 H3 H4 H5 G1 G2 G3 G4 G5 HA HCl
  go_wp2_with fail
  have q1 : Cells w5 (some ⟨g, 0, none⟩) n (fun i => .int .u8 (l.getD i 0)) := fun i hi => ⟨g, 0, rfl, by
    have hi2 : i < l.length := by rw [HN.out]; exact hi
    rw [Nat.zero_add, HF.out.r i (by rw [List.length_append]; omega)]
    simp [List.getD_eq_getElem?_getD, List.getElem?_append_left hi2]⟩
  have q2 : Cells w5 A1 n (fun i => .int .u8 (l.getD i 0)) := by have := HF.out.want; rw [HN.out] at this; exact this
  refine (eq8 (some ⟨g, 0, none⟩) A1 n n cg c1 l l w5 HN.out HN.out (by omega) (by omega) q1 q2).mono ?_
  rintro e w' ⟨rfl, d1, hw⟩
  subst hw
  rw [sameL_true rfl]
  dsimp only
  clear q1 q2
  go_wp2_with fail
  have hns : (frm s).length = ns := by simpa using HS.out
  have hnt : (frm t).length = nt := by simpa using HT.out
  have q3 : Cells (w5.drewN d1) (some ⟨g, n, none⟩) ns (fun i => .int .u8 ((frm s).getD i 0)) := fun i hi => ⟨g, n, rfl, by
    have h := HF.out.r (n + i) (by rw [List.length_append, HN.out]; omega)
    refine Eq.trans ?_ (h.trans ?_)
    · rfl
    · rw [← HN.out, List.getD_eq_getElem?_getD, List.getElem?_append_right (by omega)]; simp [List.getD_eq_getElem?_getD]⟩
  have q4 : Cells (w5.drewN d1) (some ⟨gs, 0, none⟩) ns (fun i => .int .u8 ((frm s).getD i 0)) := fun i hi => ⟨gs, 0, rfl, by
    rw [Nat.zero_add]; exact HF.out.ps i (by omega)⟩
  have q5 : ∀ d, Cells (w5.drewN d) (some ⟨gs, 0, none⟩) ns (fun i => .int .u8 ((frm s).getD i 0)) := fun d i hi => ⟨gs, 0, rfl, by
    rw [Nat.zero_add]; exact HF.out.ps i (by omega)⟩
  have q6 : ∀ d, Cells (w5.drewN d) (some ⟨gt, 0, none⟩) nt (fun i => .int .u8 ((frm t).getD i 0)) := fun d i hi => ⟨gt, 0, rfl, by
    rw [Nat.zero_add]; exact HF.out.pt i (by omega)⟩
  refine (eq8 (some ⟨g, n, none⟩) (some ⟨gs, 0, none⟩) ns ns (cg - n) cs (frm s) (frm s) _ hns hns (by omega) (by omega) q3 q4).mono ?_
  rintro e w' ⟨rfl, d2, hw⟩
  subst hw
  rw [sameL_true rfl, drewN_add]
  dsimp only
  have Q5 : Hid (∀ d, Cells (w5.drewN d) (some ⟨gs, 0, none⟩) ns (fun i => .int .u8 ((frm s).getD i 0))) := q5
  have Q6 : Hid (∀ d, Cells (w5.drewN d) (some ⟨gt, 0, none⟩) nt (fun i => .int .u8 ((frm t).getD i 0))) := q6
  have Hns : Hid ((frm s).length = ns) := hns
  have Hnt : Hid ((frm t).length = nt) := hnt
  clear q3 q4 q5 q6 hns hnt
  go_wp2_with fail
  refine (eq8 (some ⟨gs, 0, none⟩) (some ⟨gt, 0, none⟩) ns nt cs ct (frm s) (frm t) _ Hns.out Hnt.out (by omega) (by omega) (Q5.out _) (Q6.out _)).mono ?_
  rintro e w' ⟨rfl, d3, hw⟩
  subst hw
  rw [drewN_add]
  obtain ⟨r, hr⟩ : ∃ r, sameL (frm s) (frm t) = r := ⟨_, rfl⟩
  rw [hr]
  have HRr : Hid (sameL (frm s) (frm t) = r) := hr
  clear hr
  dsimp only
  go_wp2
  go_ret
  refine ⟨?_, below_drewN HF.out.below _⟩
  show Ending.returned (.bool (r == (s.toList == t.toList))) = _
  rw [← HRr.out, same_iff]
end Go.Proofs.Qxb6616151a
