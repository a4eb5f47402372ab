import Derived.Test.Qxb6616109aDmE
namespace Go.Proofs.Qxb6616109a
open Go.RowKit Go.Deep Go.Joins
set_option linter.unusedSimpArgs false
set_option linter.unusedVariables false

variable {w : World} {B : Bk} {N nT nG : Nat} {lim : Nat → Nat} {V : Nat → Nat → Value} {X : Nat → Nat → List Value} {md : Nat → Int}

/-- The script's state as the table holds it. -/
structure Tb (w : World) (B : Bk) (N nT nG : Nat) (lim : Nat → Nat) (V : Nat → Nat → Value) (X : Nat → Nat → List Value) (md : Nat → Int) (H rq : Nat → Option Nat) (L : Nat → List Nat) : Prop where
  lk : Lk w B N nT nG lim V X md
  l0 : lim 0 = nG
  l1 : lim 1 = nT
  l2 : lim 2 = nT
  x0 : ∀ g, g < nG → X 0 g = hc (H g)
  x1 : ∀ t, t < nT → X 1 t = ic (L t)
  x2 : ∀ t, t < nT → X 2 t = ic (rq t).toList
  rq : ∀ t, t < nT → ∀ g, rq t = some g → g < nG
  ho : ∀ g, g < nG → ∀ t, H g = some t → t < nT
  ll : ∀ t, t < nT → (L t).length ≤ 65536

theorem Tb.later {w w1 : World} {H rq : Nat → Option Nat} {L : Nat → List Nat} (h : Tb w B N nT nG lim V X md H rq L) (hB : Below w.heap.size w w1) : Tb w1 B N nT nG lim V X md H rq L := ⟨h.lk.later hB, h.l0, h.l1, h.l2, h.x0, h.x1, h.x2, h.rq, h.ho, h.ll⟩

theorem Tb.nx {H rq : Nat → Option Nat} {L : Nat → List Nat} (h : Tb w B N nT nG lim V X md H rq L) : ∀ s, s < nT → nxOf H rq s = [] ∨ ∃ t, t < nT ∧ nxOf H rq s = [t] := by
  intro s hs
  unfold nxOf
  cases hq : rq s with
  | none => exact .inl rfl
  | some g =>
    simp only
    have hg := h.rq s hs g hq
    cases hh : H g with
    | none => exact .inl rfl
    | some t =>
      by_cases e : t = s
      · left; simp [edge, e]
      · right; exact ⟨t, h.ho g hg t hh, by simp [edge, e]⟩

set_option maxHeartbeats 2000000 in
set_option maxRecDepth 100000 in
theorem dead25 (a at_ na ca : Nat) (v : Int) (att : Nat → Int) {H rq : Nat → Option Nat} {L : Nat → List Nat} (w : World) (h : Tb w B N nT nG lim V X md H rq L) (hnT : nT ≤ 4096) (hnG : nG ≤ 65536) (ha : a < nT) (hna : nT ≤ na) (hna2 : na ≤ 65536) (hv0 : 0 ≤ v) (hv1 : v < 256)
    (hat : at_ ≠ B.p) (hatt : ∀ x, x < nT → w.cell? ⟨at_, x, none⟩ = some (.int .i64 (att x))) :
    Calls Try.prog 25 #[.agg #[.pointer (some ⟨B.p, 0, none⟩), .int .u8 v, .slice (some ⟨at_, 0, none⟩) na ca], .int .i64 (a : Nat)] w fun e w' =>
      e = .returned (.tuple #[.int .i64 ((deadV (srch (nxOf H rq) a (nT + 1) [a]) v a (fun t => (L t).length) att).1 : Nat), .bool (deadV (srch (nxOf H rq) a (nT + 1) [a]) v a (fun t => (L t).length) att).2]) ∧ Sfr w.heap.size B.p w w' := by
  have hB1 : Below w.heap.size w (w.alloc (.cells #[.pointer (some ⟨B.p, 0, none⟩), .int .u8 v, .slice (some ⟨at_, 0, none⟩) na ca] 64)) := (Below.refl _ _).alloc (Nat.le_refl _) _
  have hb : ∀ i, (w.alloc (.cells #[.pointer (some ⟨B.p, 0, none⟩), .int .u8 v, .slice (some ⟨at_, 0, none⟩) na ca] 64)).cell? ⟨w.heap.size, i, none⟩ = (#[.pointer (some ⟨B.p, 0, none⟩), .int .u8 v, .slice (some ⟨at_, 0, none⟩) na ca] : Array Value)[i]? := fun i => cell_newest w _ 64 i
  have hs1 : (w.alloc (.cells #[.pointer (some ⟨B.p, 0, none⟩), .int .u8 v, .slice (some ⟨at_, 0, none⟩) na ca] 64)).heap.size = w.heap.size + 1 := by simp
  have h1 := h.later hB1
  have hpN : B.p < w.heap.size := by have := h.lk.ok.p.1; have := h.lk.size; omega
  have hNs := h.lk.size
  have hatt1 : ∀ x, x < nT → (w.alloc (.cells #[.pointer (some ⟨B.p, 0, none⟩), .int .u8 v, .slice (some ⟨at_, 0, none⟩) na ca] 64)).cell? ⟨at_, x, none⟩ = some (.int .i64 (att x)) := fun x hx => (hB1.cell (World.block_lt_of_cell? w _ (hatt x hx))).trans (hatt x hx)
  have hats : at_ < w.heap.size := World.block_lt_of_cell? w _ (hatt a ha)
  obtain ⟨w1, hw1⟩ : ∃ w1, w.alloc (.cells #[.pointer (some ⟨B.p, 0, none⟩), .int .u8 v, .slice (some ⟨at_, 0, none⟩) na ca] 64) = w1 := ⟨_, rfl⟩
  have HW1 : Hid (w.alloc (.cells #[.pointer (some ⟨B.p, 0, none⟩), .int .u8 v, .slice (some ⟨at_, 0, none⟩) na ca] 64) = w1) := hw1
  rw [hw1] at hB1 hb hs1 h1 hatt1
  clear hw1
  have hnxw := h1.nx
  have k43 := cycle43 B.p a nT w1 (nxOf H rq) hnT ha hnxw (next_of_lk h1.lk h1.l0 h1.l2 h1.x0 h1.x2 h1.rq hnT hnG) (by omega) h1.lk.still.cc
  obtain ⟨res, hres⟩ : ∃ res, srch (nxOf H rq) a (nT + 1) [a] = res := ⟨_, rfl⟩
  rw [hres] at k43 ⊢
  have hway : ∀ Q, res = some Q → Way Q a nT := fun Q hQ => srch_way hnxw (nT + 1) (Way.start a nT ha) (by rw [hres, hQ])
  have HWAY : Hid (∀ Q, res = some Q → Way Q a nT) := hway
  have HT1 : Hid (Tb w1 B N nT nG lim V X md H rq L) := h1
  have HB1 : Hid (Below w.heap.size w w1) := hB1
  have HATT : Hid (∀ x, x < nT → w1.cell? ⟨at_, x, none⟩ = some (.int .i64 (att x))) := hatt1
  have hbx0 : w1.cell? ⟨w.heap.size, 0, none⟩ = some (.pointer (some ⟨B.p, 0, none⟩)) := hb 0
  have hbx1 : w1.cell? ⟨w.heap.size, 1, none⟩ = some (.int .u8 v) := hb 1
  have hbx2 : w1.cell? ⟨w.heap.size, 2, none⟩ = some (.slice (some ⟨at_, 0, none⟩) na ca) := hb 2
  have HBX : Hid (w1.cell? ⟨w.heap.size, 0, none⟩ = some (.pointer (some ⟨B.p, 0, none⟩)) ∧ w1.cell? ⟨w.heap.size, 1, none⟩ = some (.int .u8 v) ∧ w1.cell? ⟨w.heap.size, 2, none⟩ = some (.slice (some ⟨at_, 0, none⟩) na ca)) := ⟨hbx0, hbx1, hbx2⟩
  clear h h1 hatt hatt1 hb hbx0 hbx1 hbx2 hway hnxw hres hB1
  go_enter Try.func25, Try.ntmps25
  go_wp2_with fail
  rw [HW1.out]
  refine k43.mono ?_
  rintro e w2 ⟨hF, hE⟩
  have hsw : Sfr w.heap.size B.p w w2 := by
    have hb1 := HB1.out
    refine ⟨hF.os.trans hb1.os, hF.tape.trans hb1.tape, hF.output.trans hb1.output, Nat.le_trans hb1.size hF.size, fun b h1 h2 => (hF.block b (by omega) h2).trans (hb1.block b h1), fun i hi => (hF.pcell i hi).trans (World.cell?_of_block (hb1.block B.p hpN))⟩
  have HSW : Hid (Sfr w.heap.size B.p w w2) := hsw
  have bx2 : ∀ {i : Nat} {u : Value}, w1.cell? ⟨w.heap.size, i, none⟩ = some u → w2.cell? ⟨w.heap.size, i, none⟩ = some u := fun hc => (World.cell?_of_block (hF.block w.heap.size (by omega) (by omega))).trans hc
  have d0 := bx2 HBX.out.1
  have d1 := bx2 HBX.out.2.1
  have d2 := bx2 HBX.out.2.2
  have HF : Hid (Sfr w1.heap.size B.p w1 w2) := hF
  clear k43 bx2 hF hsw
  cases res with
  | none =>
    have hE : e = .returned (.slice none 0 0) := hE
    subst hE
    have hq := eql25n w2
    dsimp only
    go_wp2
    go_ret2
    exact ⟨rfl, HSW.out⟩
  | some P =>
    obtain ⟨g, cap, rfl, hown⟩ := hE
    have hw := HWAY.out P rfl
    obtain ⟨x, xs, rfl⟩ : ∃ x xs, P = x :: xs := by
      cases P with
      | nil => have := hw.hd; simp at this
      | cons x xs => exact ⟨x, xs, rfl⟩
    have hq := fun l c => eql25s g l c w2
    have hlen : (x :: xs).length = xs.length + 1 := rfl
    rw [hlen] at hown ⊢
    have hgs := (hown.lt g rfl)
    by_cases hv : v = 0
    · subst hv
      clear hown
      dsimp only
      go_wp2
      go_ret2
      exact ⟨rfl, HSW.out⟩
    · have hvb : (v == 0) = false := by simpa using hv
      have k44 := min44 g cap x xs (.func (.func 45) #[] #[.pointer (some ⟨w.heap.size, 0, none⟩)]) 45 #[.pointer (some ⟨w.heap.size, 0, none⟩)] rfl w.heap.size rfl (cmpV (fun t => (L t).length) att) w2 hgs.2 (fun i y hy => by
        rw [World.ownsRow.cellAt hown i (by
          rcases Nat.lt_or_ge i (x :: xs).length with h1 | h1
          · simp at h1; omega
          · rw [List.getElem?_eq_none h1] at hy; cases hy), ic_at, hy]
        rfl) (by have := hw.len; simp at this; omega) (by
        intro W p q hB hp hq
        have hpn := hw.lt p hp
        have hqn := hw.lt q hq
        have hT := HT1.out
        have hf := HF.out
        have c1 : ∀ {b i : Nat} {u : Value}, b ≠ B.p → w1.cell? ⟨b, i, none⟩ = some u → W.cell? ⟨b, i, none⟩ = some u := fun {b i u} hne hc => by
          have hlt := World.block_lt_of_cell? w1 _ hc
          have h2 : w2.cell? ⟨b, i, none⟩ = some u := (World.cell?_of_block (hf.block _ hlt hne)).trans hc
          exact (hB.cell (World.block_lt_of_cell? w2 _ h2)).trans h2
        have c2 : W.cell? ⟨B.p, 2, none⟩ = some (.slice (some ⟨B.hd, 0, none⟩) nT nT) := by
          have h2 : w2.cell? ⟨B.p, 2, none⟩ = some (.slice (some ⟨B.hd, 0, none⟩) nT nT) := (hf.pcell 2 (by decide)).trans hT.lk.still.c2
          exact (hB.cell (World.block_lt_of_cell? w2 _ h2)).trans h2
        have hph : B.hd ≠ B.p := fun e => hT.lk.ok.p.2.2.1 e.symm
        obtain ⟨Ap, cp, hvp, _⟩ := hT.lk.lrow (k := 1) (i := p) (l := L p) (by decide) (by rw [hT.l1]; exact hpn) (hT.x1 p hpn)
        obtain ⟨Aq, cq, hvq, _⟩ := hT.lk.lrow (k := 1) (i := q) (l := L q) (by decide) (by rw [hT.l1]; exact hqn) (hT.x1 q hqn)
        have e1 : w1.cell? ⟨B.hd, p, none⟩ = some (.slice Ap (L p).length cp) := by rw [hT.lk.hds.cell hpn, hvp]
        have e2 : w1.cell? ⟨B.hd, q, none⟩ = some (.slice Aq (L q).length cq) := by rw [hT.lk.hds.cell hqn, hvq]
        exact less45 w.heap.size B.p B.hd at_ nT na ca p q (L p).length cp (L q).length cq Ap Aq (att p) (att q) W hnT hpn hqn hna (hT.ll p hpn) (hT.ll q hqn) hna2 (c1 (by omega) HBX.out.1) (c1 (by omega) HBX.out.2.2) c2 (c1 hph e1) (c1 hph e2) (c1 hat (HATT.out p hpn)) (c1 hat (HATT.out q hqn)))
      have hdv : deadV (some (x :: xs)) v a (fun t => (L t).length) att = (minF (cmpV (fun t => (L t).length) att) x xs, true) := by simp [deadV, hv]
      obtain ⟨mv, hmv⟩ : ∃ mv, minF (cmpV (fun t => (L t).length) att) x xs = mv := ⟨_, rfl⟩
      rw [hmv] at k44 hdv
      have HDV : Hid (deadV (some (x :: xs)) v a (fun t => (L t).length) att = (mv, true)) := hdv
      clear hown hdv hmv
      dsimp only
      go_wp2_with fail
      refine k44.mono ?_
      rintro e w3 ⟨rfl, hB3⟩
      have HS3 : Hid (Sfr w.heap.size B.p w w3) := HSW.out.trans (Sfr.of_below hB3 (by have := HSW.out.size; omega) (by have := HSW.out.size; omega))
      clear hB3 k44
      dsimp only
      go_wp2
      go_ret2
      exact ⟨by rw [HDV.out]; rfl, HS3.out⟩

set_option maxHeartbeats 1000000 in
theorem zz11 (a at_ na ca : Nat) (v : Int) (att : Nat → Int) {H rq : Nat → Option Nat} {L : Nat → List Nat} (w : World) (h : Tb w B N nT nG lim V X md H rq L) (hnT : nT ≤ 4096) (hnG : nG ≤ 65536) (ha : a < nT) (hna : nT ≤ na) (hna2 : na ≤ 65536) (hv0 : 0 ≤ v) (hv1 : v < 256)
    (hat : at_ ≠ B.p) (hatt : ∀ x, x < nT → w.cell? ⟨at_, x, none⟩ = some (.int .i64 (att x))) (mv : Nat) (ok : Bool) (hd : deadV (srch (nxOf H rq) a (nT + 1) [a]) v a (fun t => (L t).length) att = (mv, ok)) :
    Calls Try.prog 11 #[.pointer (some ⟨B.p, 0, none⟩), .int .u8 v, .slice (some ⟨at_, 0, none⟩) na ca, .int .i64 (a : Nat)] w fun e w' =>
      e = .returned (.tuple #[.int .i64 (mv : Nat), .bool ok]) ∧ Sfr w.heap.size B.p w w' := by
  have k := dead25 a at_ na ca v att w h hnT hnG ha hna hna2 hv0 hv1 hat hatt
  rw [hd] at k
  clear h hatt hd
  go_enter Try.func11, Try.ntmps11
  go_wp2_with fail
  refine k.mono ?_
  rintro e w' ⟨rfl, hS⟩
  have HS : Hid (Sfr w.heap.size B.p w w') := hS
  clear k hS
  dsimp only
  go_wp2
  go_ret2
  exact ⟨rfl, HS.out⟩
end Go.Proofs.Qxb6616109a
