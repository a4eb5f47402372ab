import Derived.Test.Qxb6616109aDlY
namespace Go.Proofs.Qxb6616109a
open Go.RowKit Go.Deep Go.Joins Go.Shelf
set_option linter.unusedSimpArgs false
set_option linter.unusedVariables false

/-! ### The plain search -/
/-- The path that the search finds, P being the way so far. -/
def srch (nx : Nat → List Nat) (a : Nat) : Nat → List Nat → Option (List Nat)
  | 0, _ => none
  | f + 1, P => match nx (P.getLastD a) with
    | [] => none
    | t :: _ => if t = a then some P else if t ∈ P then none else srch nx a f (P ++ [t])

/-- What 'from' holds when P is the way so far. -/
structure FP (F : List Int) (P : List Nat) (a nT : Nat) : Prop where
  len : F.length ≤ nT
  ch : ∀ i x y : Nat, P[i]? = some x → P[i + 1]? = some y → F[y]? = some (x : Int)
  own : F[a]? = some (a : Int)
  off : ∀ y, y ∉ P → F.getD y (-1) = -1

/-- The way so far. -/
structure Way (P : List Nat) (a nT : Nat) : Prop where
  hd : P[0]? = some a
  lt : ∀ x ∈ P, x < nT
  nd : P.Nodup
  len : P.length ≤ nT

theorem wide_getD (F : List Int) (x y : Nat) : (wide F x).getD y (-1) = F.getD y (-1) := by
  unfold wide
  split
  · rfl
  · rename_i h
    by_cases hy : y < F.length
    · simp [List.getD, List.getElem?_append_left hy]
    · simp only [List.getD]
      rw [List.getElem?_append_right (by omega), List.getElem?_eq_none (l := F) (by omega), List.getElem?_replicate]
      split <;> rfl
theorem wide_at (F : List Int) (x y : Nat) (z : Int) (h : F[y]? = some z) : (wide F x)[y]? = some z := by
  unfold wide
  split
  · exact h
  · have : y < F.length := by
      rcases Nat.lt_or_ge y F.length with h1 | h1
      · exact h1
      · rw [List.getElem?_eq_none h1] at h; cases h
    rw [List.getElem?_append_left this]
    exact h
theorem wide_len (F : List Int) (x : Nat) : x < (wide F x).length ∧ (wide F x).length ≤ max F.length (x + 1) := by
  unfold wide
  split
  · omega
  · simp; omega

theorem FP.start (a nT : Nat) (ha : a < nT) : FP ((wide [] a).set a (a : Int)) [a] a nT := by
  have h := wide_len [] a
  simp only [List.length_nil] at h
  refine ⟨by simp; omega, ?_, ?_, ?_⟩
  · intro i x y hx hy
    simp at hy
  · simp [h.1]
  · intro y hy
    have hya : y ≠ a := by simpa using hy
    have h2 := wide_getD [] a y
    simp only [List.getD, List.getElem?_set, if_neg (fun e : a = y => hya e.symm)]
    simpa [List.getD] using h2
theorem Way.start (a nT : Nat) (ha : a < nT) : Way [a] a nT := ⟨rfl, by simpa using ha, by simp, by simp; omega⟩

theorem FP.step {F : List Int} {P : List Nat} {a nT t u : Nat} (h : FP F P a nT) (hw : Way P a nT) (ht : t ∉ P) (htn : t < nT) (hu : P[P.length - 1]? = some u) : FP ((wide F t).set t (u : Int)) (P ++ [t]) a nT := by
  have hl := wide_len F t
  have hlen := h.len
  have hpos : 0 < P.length := by
    rcases Nat.eq_zero_or_pos P.length with h0 | h0
    · have := hw.hd; rw [List.getElem?_eq_none (by omega)] at this; cases this
    · exact h0
  refine ⟨by simp; omega, ?_, ?_, ?_⟩
  · intro i x y hx hy
    by_cases e : i + 1 < P.length
    · rw [List.getElem?_append_left (by omega)] at hx
      rw [List.getElem?_append_left e] at hy
      have hyt : y ≠ t := fun e => ht (e ▸ List.mem_of_getElem? hy)
      rw [List.getElem?_set, if_neg (fun e => hyt e.symm)]
      exact wide_at _ _ _ _ (h.ch i x y hx hy)
    · have e2 : i + 1 = P.length := by
        have h3 : i + 1 < (P ++ [t]).length := by
          rcases Nat.lt_or_ge (i + 1) (P ++ [t]).length with h1 | h1
          · exact h1
          · rw [List.getElem?_eq_none h1] at hy; cases hy
        simp at h3
        omega
      rw [List.getElem?_append_right (by omega)] at hy
      have e3 : i + 1 - P.length = 0 := by omega
      rw [e3] at hy
      obtain rfl : t = y := by simpa using hy
      rw [List.getElem?_append_left (by omega)] at hx
      have e4 : i = P.length - 1 := by omega
      rw [e4, hu] at hx
      obtain rfl : u = x := by simpa using hx
      rw [List.getElem?_set, if_pos rfl, if_pos hl.1]
  · have hat : t ≠ a := fun e => ht (e ▸ List.mem_of_getElem? hw.hd)
    rw [List.getElem?_set, if_neg hat]
    exact wide_at _ _ _ _ h.own
  · intro y hy
    have hyt : y ≠ t := fun e => hy (by simp [e])
    have hyP : y ∉ P := fun e => hy (by simp [e])
    have h2 := wide_getD F t y
    rw [h.off y hyP] at h2
    simp only [List.getD, List.getElem?_set, if_neg (fun e : t = y => hyt e.symm)]
    simpa [List.getD] using h2
theorem nodup_len {P : List Nat} {nT : Nat} (hn : P.Nodup) (hl : ∀ x ∈ P, x < nT) : P.length ≤ nT := by
  induction nT generalizing P with
  | zero =>
    cases P with
    | nil => simp
    | cons x xs => have := hl x (by simp); omega
  | succ n ih =>
    by_cases hm : n ∈ P
    · have h1 := ih (P := P.erase n) (hn.erase n) (fun x hx => by
        have h2 := (List.Nodup.mem_erase_iff hn).1 hx
        have h3 := hl x h2.2
        have h4 := h2.1
        omega)
      rw [List.length_erase_of_mem hm] at h1
      omega
    · have h1 := ih (P := P) hn (fun x hx => by
        have h3 := hl x hx
        have h4 : x ≠ n := fun e => hm (e ▸ hx)
        omega)
      omega
theorem Way.step {P : List Nat} {a nT t : Nat} (hw : Way P a nT) (ht : t ∉ P) (htn : t < nT) : Way (P ++ [t]) a nT := by
  have hpos : 0 < P.length := by
    rcases Nat.eq_zero_or_pos P.length with h0 | h0
    · have := hw.hd; rw [List.getElem?_eq_none (by omega)] at this; cases this
    · exact h0
  have h2 : ∀ x ∈ P ++ [t], x < nT := by
    intro x hx
    rcases List.mem_append.1 hx with h | h
    · exact hw.lt x h
    · obtain rfl : x = t := by simpa using h
      exact htn
  have h3 : (P ++ [t]).Nodup := by
    refine List.nodup_append.2 ⟨hw.nd, by simp, ?_⟩
    intro x hx y hy e
    obtain rfl : y = t := by simpa using hy
    exact ht (e ▸ hx)
  exact ⟨by rw [List.getElem?_append_left hpos]; exact hw.hd, h2, h3, nodup_len h3 h2⟩
theorem FP.mem {F : List Int} {P : List Nat} {a nT t : Nat} (h : FP F P a nT) (hw : Way P a nT) (ht : t ∈ P) : ∃ z : Int, F[t]? = some z ∧ z ≠ -1 := by
  obtain ⟨i, hi, e⟩ := List.getElem_of_mem ht
  by_cases h0 : i = 0
  · subst h0
    have h1 := hw.hd
    rw [List.getElem?_eq_getElem hi, e] at h1
    obtain rfl : t = a := by simpa using h1
    exact ⟨_, h.own, by omega⟩
  · obtain ⟨j, rfl⟩ : ∃ j, i = j + 1 := ⟨i - 1, by omega⟩
    exact ⟨_, h.ch j P[j] t (List.getElem?_eq_getElem (by omega)) (by rw [List.getElem?_eq_getElem hi, e]), by omega⟩
end Go.Proofs.Qxb6616109a
