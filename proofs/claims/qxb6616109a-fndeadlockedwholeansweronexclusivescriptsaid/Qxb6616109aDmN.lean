import Derived.Test.Qxb6616109aDmL
namespace Go.Proofs.Qxb6616109a
open Go.RowKit Go.Deep Go.Joins
set_option linter.unusedSimpArgs false
set_option linter.unusedVariables false

/-- The law's own following of the waits. -/
def lawW (nx : Nat → List Nat) (a : Nat) : Nat → List Nat → List Nat × Bool
  | 0, P => (P, false)
  | f + 1, P => match nx (P.getLastD a) with
    | [] => (P, false)
    | t :: _ => if t = a then (P, true) else lawW nx a f (P ++ [t])

theorem last_snoc (P : List Nat) (t a : Nat) : (P ++ [t]).getLastD a = t := by simp [List.getLastD_eq_getLast?]

/-- Once inside a set that it cannot leave and that does not hold a, the following never comes to a. -/
theorem lawW_trap {nx : Nat → List Nat} {a : Nat} (S : List Nat) (ha : a ∉ S) (hS : ∀ s ∈ S, nx s = [] ∨ ∃ t, t ∈ S ∧ nx s = [t]) (f : Nat) (P : List Nat) (hP : P.getLastD a ∈ S) : (lawW nx a f P).2 = false := by
  induction f generalizing P with
  | zero => rfl
  | succ f ih =>
    rw [lawW]
    rcases hS _ hP with e | ⟨t, ht, e⟩
    · rw [e]
    · rw [e]
      simp only
      rw [if_neg (fun e2 : t = a => ha (e2 ▸ ht))]
      exact ih _ (by rw [last_snoc]; exact ht)

theorem lawW_srch {nx : Nat → List Nat} {a nT : Nat} (hnx : ∀ s, s < nT → nx s = [] ∨ ∃ t, t < nT ∧ nx s = [t]) (f : Nat) (P : List Nat) (hw : Way P a nT) (hch : ∀ i x y : Nat, P[i]? = some x → P[i + 1]? = some y → nx x = [y]) (hf : f + P.length = nT + 1) :
    (∀ Q, srch nx a (f + 1) P = some Q → lawW nx a f P = (Q, true)) ∧ (srch nx a (f + 1) P = none → (lawW nx a f P).2 = false) := by
  induction f generalizing P with
  | zero => have := hw.len; omega
  | succ f ih =>
    have hpos : 0 < P.length := by
      rcases Nat.eq_zero_or_pos P.length with h0 | h0
      · have := hw.hd; rw [List.getElem?_eq_none (by omega)] at this; cases this
      · exact h0
    obtain ⟨u, hu⟩ : ∃ u, P[P.length - 1]? = some u := ⟨P[P.length - 1]'(by omega), List.getElem?_eq_getElem (by omega)⟩
    have hun : u < nT := hw.lt u (List.mem_of_getElem? hu)
    rw [srch, lawW, last_of hu]
    rcases hnx u hun with e | ⟨t, ht, e⟩
    · rw [e]; exact ⟨fun Q h => (by cases h), fun _ => rfl⟩
    · rw [e]
      simp only
      by_cases hta : t = a
      · rw [if_pos hta, if_pos hta]
        exact ⟨fun Q h => by simp at h; rw [h], fun h => (by cases h)⟩
      · rw [if_neg hta, if_neg hta]
        by_cases htP : t ∈ P
        · rw [if_pos htP]
          refine ⟨fun Q h => (by cases h), fun _ => ?_⟩
          obtain ⟨T, rfl⟩ : ∃ T, P = a :: T := by
            cases P with
            | nil => simp at hpos
            | cons x T => have := hw.hd; simp at this; subst this; exact ⟨T, rfl⟩
          have haT : a ∉ T := (List.nodup_cons.1 hw.nd).1
          have htT : t ∈ T := by
            rcases List.mem_cons.1 htP with h | h
            · exact absurd h hta
            · exact h
          refine lawW_trap T haT ?_ f _ (by rw [last_snoc]; exact htT)
          intro s hs
          obtain ⟨i, hi, he⟩ := List.getElem_of_mem hs
          by_cases hl : i + 1 < T.length
          · right
            refine ⟨T[i + 1], List.getElem_mem _, ?_⟩
            refine hch (i + 1) s T[i + 1] ?_ ?_
            · simp only [List.getElem?_cons_succ]; rw [List.getElem?_eq_getElem hi, he]
            · simp only [List.getElem?_cons_succ]; rw [List.getElem?_eq_getElem hl]
          · right
            have hi2 : i = T.length - 1 := by omega
            have : u = s := by
              have h1 : (a :: T)[(a :: T).length - 1]? = some s := by
                have e3 : (a :: T).length - 1 = i + 1 := by simp; omega
                rw [e3]
                simp only [List.getElem?_cons_succ]; rw [List.getElem?_eq_getElem hi, he]
              rw [hu] at h1
              simpa using h1
            subst this
            exact ⟨t, htT, e⟩
        · rw [if_neg htP]
          refine ih (P ++ [t]) (hw.step htP ht) ?_ (by simp; omega)
          intro i x y hx hy
          by_cases e1 : i + 1 < P.length
          · rw [List.getElem?_append_left (by omega)] at hx
            rw [List.getElem?_append_left e1] at hy
            exact hch i x y hx hy
          · have e2 : i + 1 = P.length := by
              have h3 : i + 1 < (P ++ [t]).length := by
                rcases Nat.lt_or_ge (i + 1) (P ++ [t]).length with h1 | h1
                · exact h1
                · rw [List.getElem?_eq_none h1] at hy; cases hy
              simp at h3
              omega
            rw [List.getElem?_append_right (by omega)] at hy
            have e3 : i + 1 - P.length = 0 := by omega
            rw [e3] at hy
            obtain rfl : t = y := by simpa using hy
            rw [List.getElem?_append_left (by omega)] at hx
            have e4 : i = P.length - 1 := by omega
            rw [e4, hu] at hx
            obtain rfl : u = x := by simpa using hx
            exact e

/-- The law's answer and the table's are one. -/
theorem lawW_start {nx : Nat → List Nat} {a nT : Nat} (hnx : ∀ s, s < nT → nx s = [] ∨ ∃ t, t < nT ∧ nx s = [t]) (ha : a < nT) :
    (∀ Q, srch nx a (nT + 1) [a] = some Q → lawW nx a nT [a] = (Q, true)) ∧ (srch nx a (nT + 1) [a] = none → (lawW nx a nT [a]).2 = false) :=
  lawW_srch hnx nT [a] (Way.start a nT ha) (fun i x y hx hy => by simp at hy) (by simp)

theorem cmpV_lt (hl : Nat → Nat) (att : Nat → Int) (x y : Nat) : cmpV hl att x y < 0 ↔ hl x < hl y ∨ (hl x = hl y ∧ att y < att x) := by
  unfold cmpV orI cmpI
  by_cases h1 : hl x < hl y
  · simp [h1]
  · by_cases h2 : hl y < hl x
    · have h3 : ¬ ((hl x : Int) < (hl y : Int)) := by omega
      have h4 : (hl y : Int) < (hl x : Int) := by omega
      simp only [h3, h4, if_true, if_false]
      constructor
      · intro h; simp at h
      · rintro (h | h) <;> omega
    · have h3 : ¬ ((hl x : Int) < (hl y : Int)) := by omega
      have h4 : ¬ ((hl y : Int) < (hl x : Int)) := by omega
      have h5 : hl x = hl y := by omega
      simp only [h3, h4, if_false, if_true, h5, Nat.lt_irrefl, false_or, true_and]
      by_cases h6 : att y < att x
      · simp [h6]
      · by_cases h7 : att x < att y <;> simp [h6, h7]

theorem lawW_pos {nx : Nat → List Nat} {a : Nat} (f : Nat) (P : List Nat) (h : 0 < P.length) : 0 < (lawW nx a f P).1.length ∧ P.length ≤ (lawW nx a f P).1.length ∧ (lawW nx a f P).1.length ≤ P.length + f := by
  induction f generalizing P with
  | zero => simp [lawW, h]
  | succ f ih =>
    rw [lawW]
    split
    · simp; omega
    · split
      · simp; omega
      · rename_i t _ _ _
        have := ih (P ++ [t]) (by simp)
        simp at this
        omega
end Go.Proofs.Qxb6616109a
