namespace Go.Proofs.Qxb6616109a
/-! The plain law of FnAwaitAfterAbortStartsAnew: no Go in sight. -/

def putL (f : Nat → List Int) (k : Nat) (v : List Int) : Nat → List Int := fun r => if r = k then v else f r

section
variable (zs0 : Nat → List Int) (own : Nat → Nat) (tx : Nat → Int) (ab : Nat → Bool)

/-- The rows of waiters after k steps of the script. -/
def st : Nat → Nat → List Int
  | 0 => zs0
  | k + 1 => if ab k then putL (st k) (own k) [] else putL (st k) (own k) (st k (own k) ++ [tx k])

/-- The last abort of o among the first k steps, or -1. -/
def lastAt : Nat → Nat → Int
  | 0, _ => -1
  | k + 1, o => if ab k = true ∧ own k = o then (k : Int) else lastAt k o

/-- What the first k steps leave of row o, 'last' being l. -/
def Fx (l : Int) (o : Nat) : Nat → List Int
  | 0 => if l < 0 then zs0 o else []
  | k + 1 => if ab k = true ∨ own k ≠ o ∨ (k : Int) < l then Fx l o k else Fx l o k ++ [tx k]

theorem lastAt_lt (k o : Nat) : lastAt own ab k o < k := by
  induction k with
  | zero => simp [lastAt]
  | succ k ih => simp only [lastAt]; split <;> omega

theorem lastAt_ge (k o : Nat) : -1 ≤ lastAt own ab k o := by
  induction k with
  | zero => simp [lastAt]
  | succ k ih => simp only [lastAt]; split <;> omega

theorem Fx_skip (l : Int) (o k : Nat) (hl : (k : Int) ≤ l) : Fx zs0 own tx ab l o k = [] := by
  induction k with
  | zero => simp only [Fx]; rw [if_neg (by omega)]
  | succ k ih => simp only [Fx]; rw [if_pos (Or.inr (Or.inr (by omega)))]; exact ih (by omega)

theorem st_eq (k o : Nat) : st zs0 own tx ab k o = Fx zs0 own tx ab (lastAt own ab k o) o k := by
  induction k with
  | zero => simp [st, lastAt, Fx]
  | succ k ih =>
    have hlt := lastAt_lt own ab k o
    by_cases ha : ab k = true
    · by_cases ho : own k = o
      · have e : lastAt own ab (k + 1) o = (k : Int) := by simp [lastAt, ha, ho]
        rw [e]
        simp only [Fx]
        rw [if_pos (Or.inl ha), Fx_skip _ _ _ _ _ _ _ (Int.le_refl _)]
        simp [st, ha, putL, ho]
      · have e : lastAt own ab (k + 1) o = lastAt own ab k o := by simp [lastAt, ho]
        rw [e]
        simp only [Fx]
        rw [if_pos (Or.inl ha), ← ih]
        simp [st, ha, putL, Ne.symm ho]
    · have e : lastAt own ab (k + 1) o = lastAt own ab k o := by simp [lastAt, ha]
      rw [e]
      simp only [Fx]
      by_cases ho : own k = o
      · rw [if_neg (by rintro (h | h | h); exact ha h; exact h ho; omega), ← ih]
        subst ho
        simp [st, ha, putL]
      · rw [if_pos (Or.inr (Or.inl ho)), ← ih]
        simp [st, ha, putL, Ne.symm ho]

theorem st_len (k o : Nat) : (st zs0 own tx ab k o).length ≤ (zs0 o).length + k := by
  induction k generalizing o with
  | zero => simp [st]
  | succ k ih =>
    by_cases ha : ab k = true
    · simp only [st, ha, putL, if_true]
      split
      · simp
      · have := ih o; omega
    · have ha' : ab k = false := by simpa using ha
      have := ih o
      simp only [st, ha', Bool.false_eq_true, if_false, putL]
      split
      · rename_i e; subst e; simp; omega
      · omega

theorem Fx_pre (l : Int) (o k : Nat) : ∀ d, ∃ t, Fx zs0 own tx ab l o (k + d) = Fx zs0 own tx ab l o k ++ t := by
  intro d
  induction d with
  | zero => exact ⟨[], by simp⟩
  | succ d ih =>
    obtain ⟨t, ht⟩ := ih
    rw [show k + (d + 1) = k + d + 1 by omega]
    simp only [Fx]
    split
    · exact ⟨t, ht⟩
    · exact ⟨t ++ [tx (k + d)], by rw [ht, List.append_assoc]⟩

theorem Fx_len_le (l : Int) (o k m : Nat) (h : k ≤ m) : (Fx zs0 own tx ab l o k).length ≤ (Fx zs0 own tx ab l o m).length := by
  obtain ⟨t, ht⟩ := Fx_pre zs0 own tx ab l o k (m - k)
  rw [show k + (m - k) = m by omega] at ht
  rw [ht]; simp

theorem Fx_at (l : Int) (o k m : Nat) (h : k < m) (hs : ¬ (ab k = true ∨ own k ≠ o ∨ (k : Int) < l)) :
    (Fx zs0 own tx ab l o k).length < (Fx zs0 own tx ab l o m).length ∧ (Fx zs0 own tx ab l o m).getD (Fx zs0 own tx ab l o k).length 0 = tx k := by
  obtain ⟨t, ht⟩ := Fx_pre zs0 own tx ab l o (k + 1) (m - (k + 1))
  rw [show k + 1 + (m - (k + 1)) = m by omega] at ht
  have e : Fx zs0 own tx ab l o (k + 1) = Fx zs0 own tx ab l o k ++ [tx k] := by
    simp only [Fx]; rw [if_neg hs]
  rw [ht, e]
  constructor
  · simp
  · simp

theorem Fx_zero_at (l : Int) (o m j : Nat) (hl : l < 0) (hj : j < (zs0 o).length) : (Fx zs0 own tx ab l o m).getD j 0 = (zs0 o).getD j 0 := by
  obtain ⟨t, ht⟩ := Fx_pre zs0 own tx ab l o 0 m
  rw [Nat.zero_add] at ht
  rw [ht]
  simp [Fx, hl, List.getElem?_append_left hj]
end
end Go.Proofs.Qxb6616109a
