import Derived.Test.Qxb6616348aMul
import Derived.RowKit3
namespace Go.Proofs.Qxb6616348a
open Go.RowKit

theorem grown_drewN (w : World) (n : Nat) : Grown w (w.drewN n) := Grown.refl w

set_option maxHeartbeats 1000000 in
theorem law4_out (a u1 q1 u2 q2 p : Nat) (w : World) (h : p = 0 ∨ 9223372036854775808 ≤ p ∨ p ≤ u1 ∨ p ≤ u2) :
    Calls Try.prog 4 #[.int .u64 a, .int .u64 u1, .int .u64 q1, .int .u64 u2, .int .u64 q2, .int .u64 p] w fun e w' => e = .returned (.bool true) ∧ w' = w := by
  by_cases h0 : p = 0
  · subst h0
    clear h
    go_enter Try.func4, Try.ntmps4
    go_wp2_with (fail)
    go_ret
    exact ⟨rfl, rfl⟩
  have b0 : ((p : Int) == 0) = false := by simp; omega
  by_cases h1 : 9223372036854775808 ≤ p
  · have b1 : decide (9223372036854775808 ≤ (p : Int)) = true := by simp; omega
    clear h
    go_enter Try.func4, Try.ntmps4
    go_wp2_with (fail)
    go_ret
    exact ⟨rfl, rfl⟩
  have b1 : decide (9223372036854775808 ≤ (p : Int)) = false := by simp; omega
  by_cases h2 : p ≤ u1
  · clear h
    go_enter Try.func4, Try.ntmps4
    go_wp2_with (fail)
    go_ret
    exact ⟨rfl, rfl⟩
  have h3 : p ≤ u2 := by omega
  clear h
  go_enter Try.func4, Try.ntmps4
  go_wp2_with (fail)
  go_ret
  exact ⟨rfl, rfl⟩

set_option maxHeartbeats 1000000 in
theorem law4_in (a u1 q1 u2 q2 p : Nat) (w : World) (ha : a < 18446744073709551616) (hu1 : u1 < p) (hu2 : u2 < p) (hp : p < 9223372036854775808) :
    Calls Try.prog 4 #[.int .u64 a, .int .u64 u1, .int .u64 q1, .int .u64 u2, .int .u64 q2, .int .u64 p] w fun e w' => e = .returned (.bool true) ∧ Grown w w' := by
  have hpp : 0 < p := by omega
  have hl1 := lazy_lt a u1 p hpp (by omega)
  have hm1 := lazy_mod a u1 p hpp (by omega)
  have hl2 := lazy_lt (lazyM a u1 p) u2 p hpp (by omega)
  have hm2 := lazy_mod (lazyM a u1 p) u2 p hpp (by omega)
  have hmm : mulM (lazyM a u1 p) u2 p = mulM (mulM a u1 p) u2 p := by
    rw [← hm1]
    show _ * u2 % p = _ % p * u2 % p
    rw [Nat.mod_mul_mod]
  have hmlt : mulM a u1 p < p := Nat.mod_lt _ hpp
  rw [hmm] at hm2
  clear hmm hm1
  have c6 : ∀ u w, u < p → Calls Try.prog 6 #[.int .u64 (u : Nat), .int .u64 p] w fun e w' => e = .returned (.int .u64 (shQ u p : Nat)) ∧ w' = w := fun u w hu => quot6 u p w hp hu
  have c7 : ∀ a u w, a < 18446744073709551616 → u < p → Calls Try.prog 7 #[.int .u64 (a : Nat), .int .u64 (u : Nat), .int .u64 (shQ u p : Nat), .int .u64 p] w fun e w' => e = .returned (.int .u64 (lazyM a u p : Nat)) ∧ w' = w := fun a u w ha hu => mul7 a u p w ha hp hu
  have c8 : ∀ a v w, a < 18446744073709551616 → v < 18446744073709551616 → Calls Try.prog 8 #[.int .u64 (a : Nat), .int .u64 (v : Nat), .int .u64 p] w fun e w' => e = .returned (.int .u64 (mulM a v p : Nat)) ∧ w' = w := fun a v w ha hv => mod8 a v p w hpp hp ha hv
  obtain ⟨S, hS⟩ : ∃ S : Nat → Nat, ∀ u, shQ u p = S u := ⟨fun u => shQ u p, fun _ => rfl⟩
  obtain ⟨L, hL⟩ : ∃ L : Nat → Nat → Nat, ∀ a u, lazyM a u p = L a u := ⟨fun a u => lazyM a u p, fun _ _ => rfl⟩
  obtain ⟨M, hM⟩ : ∃ M : Nat → Nat → Nat, ∀ a u, mulM a u p = M a u := ⟨fun a u => mulM a u p, fun _ _ => rfl⟩
  simp only [hS, hL, hM] at c6 c7 c8 hl1 hl2 hm2 hmlt
  clear hS hL hM
  have C6 : Hid (∀ u w, u < p → Calls Try.prog 6 #[.int .u64 (u : Nat), .int .u64 p] w fun e w' => e = .returned (.int .u64 (S u : Nat)) ∧ w' = w) := c6
  have C7 : Hid (∀ a u w, a < 18446744073709551616 → u < p → Calls Try.prog 7 #[.int .u64 (a : Nat), .int .u64 (u : Nat), .int .u64 (S u : Nat), .int .u64 p] w fun e w' => e = .returned (.int .u64 (L a u : Nat)) ∧ w' = w) := c7
  have C8 : Hid (∀ a v w, a < 18446744073709551616 → v < 18446744073709551616 → Calls Try.prog 8 #[.int .u64 (a : Nat), .int .u64 (v : Nat), .int .u64 p] w fun e w' => e = .returned (.int .u64 (M a v : Nat)) ∧ w' = w) := c8
  clear c6 c7 c8
  have b0 : ((p : Int) == 0) = false := by simp; omega
  have b1 : decide (9223372036854775808 ≤ (p : Int)) = false := by simp; omega
  have b2 : decide ((p : Int) ≤ u1) = false := by simp; omega
  have b3 : decide ((p : Int) ≤ u2) = false := by simp; omega
  by_cases h4 : q1 = S u1
  · subst h4
    by_cases h5 : q2 = S u2
    · subst h5
      have hrem : ((L (L a u1) u2 : Nat) : Int) % (p : Int) = ((M (M a u1) u2 : Nat) : Int) := by rw [← hm2]; omega
      have hg1 : ((L a u1 : Nat) : Int) < 2 * (p : Int) := by omega
      have hg2 : ((L (L a u1) u2 : Nat) : Int) < 2 * (p : Int) := by omega
      have hg3 : decide (((L a u1 : Nat) : Int) < 2 * (p : Int)) = true := by simp; omega
      have hg4 : decide (((L (L a u1) u2 : Nat) : Int) < 2 * (p : Int)) = true := by simp; omega
      have hwp : IntKind.u64.wrap (2 * (p : Int)) = 2 * (p : Int) := by rw [IntKind.wrap_u64]; omega
      clear hm2
      go_enter Try.func4, Try.ntmps4
      go_wp2_with (first
        | (go_at_call 6; refine (C6.out _ _ (by assumption)).mono ?_; rintro e w' ⟨rfl, hw⟩; rw [hw])
        | (go_at_call 7; refine (C7.out _ _ _ (by omega) (by assumption)).mono ?_; rintro e w' ⟨rfl, hw⟩; rw [hw]))
      go_quiet ((go_at_call 8; exact Calls.quiet_of_same (C8.out _ _ _ (by omega) (by omega))))
      go_wp2_with (fail)
      go_ret
      exact ⟨rfl, grown_drewN _ _⟩
    · have h5b : ((q2 : Int) == (S u2 : Int)) = false := by simp; omega
      go_enter Try.func4, Try.ntmps4
      go_wp2_with ((go_at_call 6; refine (C6.out _ _ (by assumption)).mono ?_; rintro e w' ⟨rfl, hw⟩; rw [hw]))
      go_ret
      exact ⟨rfl, Grown.refl _⟩
  · have h4b : ((q1 : Int) == (S u1 : Int)) = false := by simp; omega
    go_enter Try.func4, Try.ntmps4
    go_wp2_with ((go_at_call 6; refine (C6.out _ _ (by assumption)).mono ?_; rintro e w' ⟨rfl, hw⟩; rw [hw]))
    go_ret
    exact ⟨rfl, Grown.refl _⟩
end Go.Proofs.Qxb6616348a
