import Derived.Test.Qxb6616151aPut
namespace Go.Proofs.Qxb6616151a
/-! The plain law: the frame is injective. -/
theorem uvF_inj (f x y : Nat) (s t : List Int) (h : uvF f x ++ s = uvF f y ++ t) : x = y ∧ s = t := by
  induction f generalizing x y with
  | zero => simp [uvF] at h; exact ⟨by omega, h.2⟩
  | succ f ih =>
    simp only [uvF] at h
    split at h
    · split at h
      · simp at h; exact ⟨by omega, h.2⟩
      · simp at h; omega
    · split at h
      · simp at h; omega
      · simp only [List.cons_append, List.cons.injEq] at h
        have := ih _ _ h.2
        exact ⟨by omega, this.2⟩

theorem bys_inj {s t : ByteArray} (h : bys s = bys t) : s = t := by
  have h2 : s.data.toList = t.data.toList := by
    unfold bys at h
    have inj : Function.Injective (fun b : UInt8 => (b.toNat : Int)) := by
      intro a b hab
      exact UInt8.toNat_inj.1 (by have h3 : (a.toNat : Int) = (b.toNat : Int) := hab; omega)
    exact (List.map_inj_right (fun a b hab => inj hab)).1 h
  cases s; cases t
  simp only [ByteArray.mk.injEq]
  exact Array.toList_inj.1 h2

theorem frm_inj {s t : ByteArray} (h : frm s = frm t) : s = t := bys_inj (uvF_inj 2 _ _ _ _ h).2
end Go.Proofs.Qxb6616151a
