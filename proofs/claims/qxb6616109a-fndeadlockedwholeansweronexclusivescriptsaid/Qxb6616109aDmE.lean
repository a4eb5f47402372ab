import Derived.Test.Qxb6616109aDmD
namespace Go.Proofs.Qxb6616109a
open Go.RowKit Go.Deep Go.Joins
set_option linter.unusedSimpArgs false
set_option linter.unusedVariables false

variable {w : World} {B : Bk} {N nT nG : Nat} {lim : Nat → Nat} {V : Nat → Nat → Value} {X : Nat → Nat → List Value} {md : Nat → Int}

/-- Whom s waits for. -/
def nxOf (H rq : Nat → Option Nat) (s : Nat) : List Nat := match rq s with
  | none => []
  | some g => edge (H g) s

theorem next_of_lk {H rq : Nat → Option Nat} (h : Lk w B N nT nG lim V X md) (hl0 : lim 0 = nG) (hl2 : lim 2 = nT) (hX0 : ∀ g, g < nG → X 0 g = hc (H g)) (hX2 : ∀ t, t < nT → X 2 t = ic (rq t).toList) (hrq : ∀ t, t < nT → ∀ g, rq t = some g → g < nG) (hnT : nT ≤ 4096) (hnG : nG ≤ 65536) :
    NextOk w.heap.size B.p nT w (nxOf H rq) := by
  intro w' s A0 c0 hs hF hsz hown
  have ok := h.ok
  have hN := h.size
  have same : ∀ {b i : Nat} {v : Value}, b < w.heap.size → b ≠ B.p → w.cell? ⟨b, i, none⟩ = some v → w'.cell? ⟨b, i, none⟩ = some v := fun hb hne hc => (World.cell?_of_block (hF.block _ hb hne)).trans hc
  have pc : ∀ {i : Nat} {v : Value}, i < 11 → w.cell? ⟨B.p, i, none⟩ = some v → w'.cell? ⟨B.p, i, none⟩ = some v := fun hi hc => (hF.pcell _ hi).trans hc
  obtain ⟨Ag, cg, hvg, hrg⟩ := h.lrow (k := 2) (i := s) (l := (rq s).toList) (by decide) (by omega) (hX2 s hs)
  have hr0 : w.cell? ⟨B.rf, s * 2, none⟩ = some (.slice Ag (rq s).toList.length cg) := by
    rw [h.rfs.cell (by omega)]
    simp [rfAt, hvg]
  have hr1 : w.cell? ⟨B.rf, s * 2 + 1, none⟩ = some (.int .u8 (md s)) := by
    rw [h.rfs.cell (by omega)]
    have e1 : (s * 2 + 1) % 2 = 1 := by omega
    have e2 : (s * 2 + 1) / 2 = s := by omega
    simp [rfAt, e1, e2]
  have hprf : B.rf ≠ B.p := fun e => ok.p.2.2.2 e.symm
  have hpho : B.ho ≠ B.p := fun e => ok.p.2.1 e.symm
  have hlow : B.p < w.heap.size ∧ B.ho < w.heap.size ∧ B.qu < w.heap.size ∧ B.rf < w.heap.size := by
    have h1 := ok.p.1; have h2 := ok.ho.1; have h3 := ok.qu.1; have h4 := ok.rf
    omega
  refine appendWaitsFor58 w.heap.size B.p B.ho B.qu nG nT B.rf s Ag (rq s).toList.length cg (md s) (nxOf H rq s) A0 c0 w' hnG hnT hs hsz hlow (pc (by decide) h.still.c3) (same (by omega) hprf hr0) (same (by omega) hprf hr1) ?_ hown
  unfold Waits nxOf
  cases hq : rq s with
  | none => exact .inl ⟨rfl, rfl⟩
  | some g =>
    right
    refine ⟨rfl, ?_⟩
    have hg := hrq s hs g hq
    rw [hq] at hrg hvg
    obtain ⟨b0, cap0, e0⟩ := ownsRow_form hrg (by simp)
    simp only [Value.slice.injEq] at e0
    obtain ⟨rfl, _, rfl⟩ := e0
    have hb0 := h.fam.blk (k := 2) (i := s) (b := b0) (by omega) (by rw [hvg]; rfl)
    have hcg : w.cell? ⟨b0, 0, none⟩ = some (.int .i64 (g : Int)) := by
      rw [World.ownsRow.cellAt hrg 0 (by simp)]
      rfl
    obtain ⟨A, l, cp, hv0, hrow, hlen⟩ := h.hrow hl0 hg (hX0 g hg)
    have hpN := ok.p.1
    have hquN := ok.qu.1
    have hA : ∀ b, A = some ⟨b, 0, none⟩ → b < w.heap.size ∧ b ≠ B.p := by
      intro b e
      have hb := h.fam.blk (k := 0) (i := g) (b := b) (by omega) (by rw [hv0, e]; rfl)
      exact ⟨hb.2, by omega⟩
    have hTab := h.tab hg hv0
    refine ⟨b0, 0, g, A, l, cp, H g, rfl, same hb0.2 (by omega) hcg, hg, ⟨pc (by decide) hTab.c0, pc (by decide) hTab.c1, same (by omega) hpho hTab.ho, ?_⟩, ?_, fun b e => (hA b e).1, rfl⟩
    · have e : B.qu ≠ B.p := fun e => by
        have h1 := h.still.qus 0 (by omega)
        rw [e, h.still.c0] at h1
        simp at h1
      exact same (by omega) e hTab.qu
    · rcases hrow with ⟨h1, h2⟩ | ⟨b, t, h1, h2, h3, h4, h5⟩
      · exact .inl ⟨h1, h2⟩
      · have := hA b h2
        exact .inr ⟨b, t, h1, h2, h3, same this.1 this.2 h4, same this.1 this.2 h5⟩

theorem srch_way {nx : Nat → List Nat} {a nT : Nat} (hnx : ∀ s, s < nT → nx s = [] ∨ ∃ t, t < nT ∧ nx s = [t]) (f : Nat) {P Q : List Nat} (hw : Way P a nT) (h : srch nx a f P = some Q) : Way Q a nT := by
  induction f generalizing P with
  | zero => simp [srch] at h
  | succ f ih =>
    have hpos : 0 < P.length := by
      rcases Nat.eq_zero_or_pos P.length with h0 | h0
      · have := hw.hd; rw [List.getElem?_eq_none (by omega)] at this; cases this
      · exact h0
    obtain ⟨u, hu⟩ : ∃ u, P[P.length - 1]? = some u := ⟨P[P.length - 1]'(by omega), List.getElem?_eq_getElem (by omega)⟩
    have hun : u < nT := hw.lt u (List.mem_of_getElem? hu)
    rw [srch, last_of hu] at h
    rcases hnx u hun with e | ⟨t, ht, e⟩
    · rw [e] at h; cases h
    · rw [e] at h
      simp only at h
      split at h
      · simp at h; subst h; exact hw
      · split at h
        · cases h
        · rename_i h1 h2
          exact ih (hw.step h2 ht) h

set_option maxHeartbeats 1000000 in
theorem cycle43 (p a nT : Nat) (w : World) (nx : Nat → List Nat) (hnT : nT ≤ 4096) (ha : a < nT) (hnx : ∀ s, s < nT → nx s = [] ∨ ∃ t, t < nT ∧ nx s = [t]) (hn : NextOk w.heap.size p nT w nx)
    (hp : p < w.heap.size) (hcc : ∀ i, i < 4 → w.cell? ⟨p, 11 + i, none⟩ = some (.slice none 0 0) ∧ w.frozen? ⟨p, 11 + i, none⟩ = false) :
    Calls Try.prog 43 #[.pointer (some ⟨p, 0, none⟩), .int .i64 (a : Nat)] w (PathPost w.heap.size p w (srch nx a (nT + 1) [a])) := by
  have k57 := path57 p a nT w nx hnT ha hnx hn hp hcc
  clear hn hcc hnx
  go_enter Try.func43, Try.ntmps43
  go_wp2_with fail
  refine k57.mono ?_
  rintro e w' hpp
  have HPP : Hid (PathPost w.heap.size p w (srch nx a (nT + 1) [a]) e w') := hpp
  obtain ⟨A, l, c, rfl⟩ : ∃ A l c, e = .returned (.slice A l c) := by
    cases hs : srch nx a (nT + 1) [a] with
    | none => rw [hs] at hpp; exact ⟨_, _, _, hpp.2⟩
    | some P => rw [hs] at hpp; obtain ⟨g, cap, e, _⟩ := hpp.2; exact ⟨_, _, _, e⟩
  clear hpp k57
  dsimp only
  go_wp2
  go_ret
  exact HPP.out

/-- The order of victims. -/
def cmpV (hl : Nat → Nat) (att : Nat → Int) (x y : Nat) : Int := orI (cmpI (hl x) (hl y)) (cmpI (att y) (att x))

/-- What Deadlocked gives. -/
def deadV (res : Option (List Nat)) (v : Int) (a : Nat) (hl : Nat → Nat) (att : Nat → Int) : Nat × Bool := match res with
  | none => (0, false)
  | some [] => (0, false)
  | some (x :: xs) => if v = 0 then (a, true) else (minF (cmpV hl att) x xs, true)

theorem eql25s (g l c : Nat) (w : World) : (binOp .eql 25 (.slice (some ⟨g, 0, none⟩) l c) (.slice none 0 0)).run Try.prog w = .ok (.bool false) w := by
  kernel_rfl
theorem eql25n (w : World) : (binOp .eql 25 (.slice none 0 0) (.slice none 0 0)).run Try.prog w = .ok (.bool true) w := by kernel_rfl
end Go.Proofs.Qxb6616109a
