import Derived.Test.Qxb6616109aPhA
import Derived.Test.Qxb6616109aPhE
import Derived.Test.Qxb6616109aPhN
namespace Go.Proofs.Qxb6616109a
open Go.RowKit Go.Deep Go.Joins

set_option maxRecDepth 100000 in
theorem split7 : Try.f5.body.getD .skip = cutAt 7 (Try.f5.body.getD .skip) (dropAt 7 (Try.f5.body.getD .skip)) := by kernel_rfl
set_option maxRecDepth 100000 in
theorem split13 : dropAt 7 (Try.f5.body.getD .skip) = cutAt 6 (dropAt 7 (Try.f5.body.getD .skip)) (dropAt 13 (Try.f5.body.getD .skip)) := by kernel_rfl
set_option maxRecDepth 100000 in
theorem split14 : dropAt 13 (Try.f5.body.getD .skip) = cutAt 1 (dropAt 13 (Try.f5.body.getD .skip)) (dropAt 14 (Try.f5.body.getD .skip)) := by kernel_rfl
set_option maxRecDepth 100000 in
theorem split18 : dropAt 14 (Try.f5.body.getD .skip) = cutAt 4 (dropAt 14 (Try.f5.body.getD .skip)) (dropAt 18 (Try.f5.body.getD .skip)) := by kernel_rfl

section
variable (zs : Nat → List Int) (own : Nat → Nat) (tx : Nat → Int) (ab : Nat → Bool)
/-- How far row o is checked after k steps. -/
def posAt (m k o : Nat) : Nat := (Fx zs own tx ab (lastAt own ab m o) o k).length

theorem posAt_skip (m k : Nat) (h : ab k = true ∨ (k : Int) < lastAt own ab m (own k)) (o : Nat) : posAt zs own tx ab m (k + 1) o = posAt zs own tx ab m k o := by
  unfold posAt
  simp only [Fx]
  by_cases e : own k = o
  · subst e
    rw [if_pos (by rcases h with h | h; exact Or.inl h; exact Or.inr (Or.inr h))]
  · rw [if_pos (Or.inr (Or.inl e))]

theorem posAt_step (m k : Nat) (hk : k < m) (ha : ab k = false) (h : ¬ (k : Int) < lastAt own ab m (own k)) :
    posAt zs own tx ab m k (own k) < (st zs own tx ab m (own k)).length ∧ (st zs own tx ab m (own k)).getD (posAt zs own tx ab m k (own k)) 0 = tx k ∧
      ∀ o, posAt zs own tx ab m (k + 1) o = if o = own k then posAt zs own tx ab m k o + 1 else posAt zs own tx ab m k o := by
  rw [st_eq]
  have hn : ¬ (ab k = true ∨ own k ≠ own k ∨ (k : Int) < lastAt own ab m (own k)) := by rintro (h1 | h1 | h1); (rw [ha] at h1; cases h1); exact h1 rfl; exact h h1
  obtain ⟨h1, h2⟩ := Fx_at zs own tx ab (lastAt own ab m (own k)) (own k) k m hk hn
  refine ⟨h1, h2, fun o => ?_⟩
  unfold posAt
  simp only [Fx]
  by_cases e : o = own k
  · subst e; rw [if_neg hn, if_pos rfl]; simp
  · rw [if_pos (Or.inr (Or.inl (fun h => e h.symm))), if_neg e]

theorem posAt_end (m o : Nat) : posAt zs own tx ab m m o = (st zs own tx ab m o).length := by
  unfold posAt; rw [st_eq]

theorem posAt_zero (m o : Nat) : (posAt zs own tx ab m 0 o : Int) = if lastAt own ab m o < 0 then ((zs o).length : Int) else 0 := by
  unfold posAt
  simp only [Fx]
  split <;> simp

theorem pre_len (m o : Nat) (h : lastAt own ab m o < 0) : (zs o).length ≤ (st zs own tx ab m o).length ∧ ∀ i, i < (zs o).length → (st zs own tx ab m o).getD i 0 = (zs o).getD i 0 := by
  rw [st_eq]
  refine ⟨?_, fun i hi => Fx_zero_at zs own tx ab _ o m i h hi⟩
  have := Fx_len_le zs own tx ab (lastAt own ab m o) o 0 m (Nat.zero_le _)
  simpa [Fx, h] using this
end

set_option maxHeartbeats 4000000 in
set_option maxRecDepth 100000 in
theorem walk5 (A0 A1 A2 A3 : Option Addr) (n0 c0 n1 c1 n2 c2 n3 c3 : Nat) (AA : Nat → Option Addr) (L CC : Nat → Nat) (zs : Nat → List Int) (ow tx : Nat → Int) (ab : Nat → Bool) (w : World)
    (h0 : n0 ≤ maxLen) (h1 : n1 ≤ maxLen) (h2 : n2 ≤ maxLen) (h3 : n3 ≤ maxLen) (hL : ∀ r, r < n0 → L r ≤ maxLen) (hA0 : A0 = none → n0 = 0 ∧ c0 = 0)
    (hc : Cells w A0 n0 (fun r => .slice (AA r) (L r) (CC r))) (hin : ∀ r, r < n0 → RowIn w (AA r) (L r) (CC r) (zs r))
    (hc1 : Cells w A1 n1 (fun i => .int .i64 (tx i))) (hc2 : Cells w A2 n2 (fun i => .int .i64 (ow i))) (hc3 : Cells w A3 n3 (fun i => .bool (ab i))) (hwf : ∀ i, i < n2 → In64 (ow i)) :
    Calls Try.prog 5 #[.slice A0 n0 c0, .slice A1 n1 c1, .slice A2 n2 c2, .slice A3 n3 c3] w fun e w' => e = .returned (.bool true) ∧ Below w.heap.size w w' := by
  go_enter Try.func5, Try.ntmps5
  show Code.wp Try.prog (Try.f5.body.getD .skip) _ _ _
  rw [split7]
  refine phaseA _ w A0 A1 A2 A3 n0 c0 n1 c1 n2 c2 n3 c3 AA L CC ow h0 h1 h2 h3 hL hc hc2 hwf ?_
  intros
  rename_i l0 l1 e2 e3 hLs how
  subst e3
  subst e2
  cases A0 with
  | none =>
    obtain ⟨rfl, rfl⟩ := hA0 rfl
    have hn2 : n2 = 0 := by
      rcases Nat.eq_zero_or_pos n2 with h | h
      · exact h
      · have := how 0 h; omega
    subst hn2
    exact phaseN w A1 A2 A3 c1 c2 c3
  | some ad =>
    rw [split13]
    refine phaseB _ w ad A1 A2 A3 n0 c0 n2 c1 c2 c3 AA L CC zs ow ab l0 l1 hLs hc hin hc2 hc3 how ?_
    intro w5 gW hi vsB vs
    intros
    rename_i hB
    rw [split14]
    have hzl : ∀ r, r < n0 → (zs r).length ≤ 131072 := fun r hr => by rw [(hin r hr).len]; exact hLs r hr
    refine phaseC _ w w5 gW hi vsB vs A1 A2 A3 n0 n2 c1 c2 c3 zs ow tx ab l0 l1 hzl hB hc1 hc2 hc3 how ?_
    intro w6 vs'
    intros
    rename_i hT hS
    rw [split18]
    obtain ⟨Ab, Ag, Cb, Cg, hE⟩ := ends_mk hB hS hT
    have hst : ∀ r, r < n0 → (st zs (fun i => (ow i).toNat) tx ab n2 r).length ≤ 1048576 := fun r hr => by
      have a1 := st_len zs (fun i => (ow i).toNat) tx ab n2 r
      have a2 := hzl r hr
      omega
    refine phaseD _ w w6 gW hi A1 A2 A3 n0 n2 c1 c2 c3 Ab Ag Cb Cg _ _ _ _ _ (fun o => (posAt zs (fun i => (ow i).toNat) tx ab n2 0 o : Int)) l0 (fun r hr => ⟨by have := hzl r hr; omega, hst r hr⟩) hE hT.c5 ?_ ?_ ?_
    · intro r hr hla
      have hp := pre_len zs (fun i => (ow i).toNat) tx ab n2 r hla
      exact ⟨by rw [posAt_zero, if_pos hla], hp.1, hp.2⟩
    · intro r hr hla
      rw [posAt_zero, if_neg hla]
    · intro w7
      intros
      rename_i hP
      exact phaseE w w6 w7 gW hi A1 A2 A3 n0 n2 c1 c2 c3 Ab Ag Cb Cg _ _ _ _ _ (posAt zs (fun i => (ow i).toNat) tx ab n2) ow tx ab l0 l1 hst hE hc1 hc2 hc3 how
        (fun k _ h o _ => posAt_skip zs (fun i => (ow i).toNat) tx ab n2 k h o)
        (fun k hk ha h => ⟨(posAt_step zs (fun i => (ow i).toNat) tx ab n2 k hk ha h).1, (posAt_step zs (fun i => (ow i).toNat) tx ab n2 k hk ha h).2.1, fun o _ => (posAt_step zs (fun i => (ow i).toNat) tx ab n2 k hk ha h).2.2 o⟩)
        (fun o _ => posAt_end zs (fun i => (ow i).toNat) tx ab n2 o) hP
end Go.Proofs.Qxb6616109a
