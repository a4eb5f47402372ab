import Derived.Test.Qxb6616348aRows
import Derived.WalkKit
import Derived.ProofKit
import Derived.OpenShut
import Derived.WalkSpells
import Derived.WalkLawsBesides
import Derived.BigQuiet
import Derived.Deep.QuietTactic
namespace Go.Proofs.Qxb6616348a
open Go.RowKit

/-- Shoup's quotient. -/
def shQ (u p : Nat) : Nat := u * 2 ^ 64 / p
/-- The product modulo p. -/
def mulM (a v p : Nat) : Nat := a * v % p

theorem or_one (q : Nat) (h : q < 9223372036854775808) : bits .or .u64 ((q : Int) * 2) 1 = (q : Int) * 2 + 1 := by
  have e := bits_or_u64_nat (2 ^ 1 * q) 1 (by omega) (by omega)
  rw [← Nat.two_pow_add_eq_or_of_lt (i := 1) (by decide) q] at e
  have e2 : ((2 ^ 1 * q : Nat) : Int) = (q : Int) * 2 := by omega
  rw [e2] at e
  rw [show (1 : Int) = ((1 : Nat) : Int) from rfl, e]
  omega

set_option maxHeartbeats 1000000 in
theorem quot6 (u p : Nat) (w : World) (hp : p < 9223372036854775808) (hu : u < p) :
    Calls Try.prog 6 #[.int .u64 u, .int .u64 p] w fun e w' => e = .returned (.int .u64 (shQ u p : Nat)) ∧ w' = w := by
  go_enter Try.func6, Try.ntmps6
  go_wp2
  go_loop [5, 6, 7] (fun x y i => ∃ k r q : Nat, k ≤ 64 ∧ i = .int .i64 k ∧ x = .int .u64 r ∧ y = .int .u64 q ∧ r < p ∧ q < 2 ^ k ∧ Hid (u * 2 ^ k = q * p + r)) (fun _ _ i => 64 - (intOf i).toNat)
  case atStart => exact ⟨0, u, 0, by omega, rfl, rfl, rfl, hu, by omega, by show u * 2 ^ 0 = 0 * p + u; omega⟩
  case round =>
    obtain ⟨k, r, q, hk, rfl, rfl, rfl, hr, hq, HE⟩ := hrel
    by_cases hlt : k < 64
    · have hq2 : q < 9223372036854775808 := by
        have : (2 : Nat) ^ k ≤ 2 ^ 63 := Nat.pow_le_pow_right (by decide) (by omega)
        omega
      have HQ : Hid (q < 2 ^ k) := hq
      clear hq
      have hor := or_one q hq2
      have hpw : (2 : Nat) ^ (k + 1) = 2 ^ k * 2 := Nat.pow_succ _ _
      have HPW : Hid ((2 : Nat) ^ (k + 1) = 2 ^ k * 2) := hpw
      clear hpw
      by_cases hc : p ≤ r * 2
      · go_wp2
        go_round
        case rel =>
          refine ⟨k + 1, r * 2 - p, q * 2 + 1, by omega, by go_num, by go_num, by go_num, by omega, by have := HQ.out; have := HPW.out; omega, ?_⟩
          show u * 2 ^ (k + 1) = (q * 2 + 1) * p + (r * 2 - p)
          have h := HE.out
          rw [HPW.out, ← Nat.mul_assoc, h, Nat.add_mul, Nat.add_mul, Nat.mul_right_comm, Nat.one_mul]
          omega
        case measure => simp [intOf]; omega
      · go_wp2
        go_round
        case rel =>
          refine ⟨k + 1, r * 2, q * 2, by omega, by go_num, by go_num, by go_num, by omega, by have := HQ.out; have := HPW.out; omega, ?_⟩
          show u * 2 ^ (k + 1) = (q * 2) * p + r * 2
          have h := HE.out
          rw [HPW.out, ← Nat.mul_assoc, h, Nat.add_mul, Nat.mul_right_comm]
        case measure => simp [intOf]; omega
    · obtain rfl : k = 64 := by omega
      have HV : Hid (shQ u p = q) := by
        show u * 2 ^ 64 / p = q
        rw [HE.out, Nat.mul_comm q p, Nat.mul_add_div (by omega), Nat.div_eq_of_lt hr, Nat.add_zero]
      clear hq HE
      go_wp2
      go_ret
      exact ⟨by rw [HV.out]; rfl, rfl⟩

theorem mod_dbl {p r x V : Nat} (hr : r < p) (h : r = x * V % p) : (if p ≤ r * 2 then r * 2 - p else r * 2) = x * (2 * V) % p := by
  have e : x * (2 * V) % p = r * 2 % p := by
    rw [h, Nat.mul_comm (x * V % p) 2, Nat.mul_mod_mod, ← Nat.mul_assoc, ← Nat.mul_assoc, Nat.mul_comm x 2]
  rw [e]
  split
  · rw [Nat.mod_eq_sub_mod (by assumption), Nat.mod_eq_of_lt (by omega)]
  · rw [Nat.mod_eq_of_lt (by omega)]
theorem mod_add {p y x V : Nat} (hy : y < p) (hx : x < p) (h : y = x * (2 * V) % p) : (if p ≤ y + x then y + x - p else y + x) = x * (2 * V + 1) % p := by
  have e : x * (2 * V + 1) % p = (y + x) % p := by
    rw [h, Nat.mul_add, Nat.mul_one, Nat.mod_add_mod]
  rw [e]
  split
  · rw [Nat.mod_eq_sub_mod (by assumption), Nat.mod_eq_of_lt (by omega)]
  · rw [Nat.mod_eq_of_lt (by omega)]
theorem and_one (v j : Nat) (hv : v < 18446744073709551616) : bits .and .u64 ((v : Int) / 2 ^ j) 1 = ((v / 2 ^ j % 2 : Nat) : Int) := by
  have e : ((v : Int) / 2 ^ j) = ((v / 2 ^ j : Nat) : Int) := by
    rw [Int.natCast_ediv, Int.natCast_pow]; rfl
  have hd : v / 2 ^ j ≤ v := Nat.div_le_self _ _
  rw [e]
  obtain ⟨y, hy⟩ : ∃ y, v / 2 ^ j = y := ⟨_, rfl⟩
  rw [hy] at hd ⊢
  rw [and_one_u64 _ (by omega) (by omega)]
  omega
theorem div_half (v j : Nat) : v / 2 ^ j = 2 * (v / 2 ^ (j + 1)) + v / 2 ^ j % 2 := by
  rw [Nat.pow_succ, ← Nat.div_div_eq_div_mul]
  omega

set_option maxHeartbeats 1000000 in
theorem mod8 (a v p : Nat) (w : World) (hp0 : 0 < p) (hp : p < 9223372036854775808) (ha : a < 18446744073709551616) (hv : v < 18446744073709551616) :
    Calls Try.prog 8 #[.int .u64 a, .int .u64 v, .int .u64 p] w fun e w' => e = .returned (.int .u64 (mulM a v p : Nat)) ∧ w' = w := by
  go_enter Try.func8, Try.ntmps8
  go_wp2
  go_loop [8, 9] (fun x i => ∃ j r : Nat, j ≤ 64 ∧ i = .int .i64 ((j : Int) - 1) ∧ x = .int .u64 r ∧ r < p ∧ Hid (r = (a % p) * (v / 2 ^ j) % p)) (fun _ i => (intOf i + 1).toNat)
  case atStart => exact ⟨64, 0, by omega, rfl, rfl, hp0, by show 0 = (a % p) * (v / 2 ^ 64) % p; rw [Nat.div_eq_of_lt (by omega)]; simp⟩
  case round =>
    obtain ⟨j, r, hj, rfl, rfl, hr, HE⟩ := hrel
    cases j with
    | zero =>
      have HV : Hid (mulM a v p = r) := by
        show a * v % p = r
        have h := HE.out
        rw [Nat.pow_zero, Nat.div_one, Nat.mod_mul_mod] at h
        exact h.symm
      clear HE
      rw [show (((0 : Nat) : Int) - 1) = -1 from by omega]
      go_wp2
      go_ret
      exact ⟨by rw [HV.out]; rfl, rfl⟩
    | succ j =>
      obtain ⟨x, hx⟩ : ∃ x, a % p = x := ⟨_, rfl⟩
      have hxp : x < p := by rw [← hx]; exact Nat.mod_lt _ hp0
      have hxi : ((a : Int) % (p : Int)) = (x : Int) := by rw [← hx]; omega
      rw [show (((j + 1 : Nat) : Int) - 1) = (j : Int) from by omega]
      obtain ⟨V, hV⟩ : ∃ V, v / 2 ^ (j + 1) = V := ⟨_, rfl⟩
      have hdh := div_half v j
      have hao := and_one v j hv
      obtain ⟨bt, hbt⟩ : ∃ bt, v / 2 ^ j % 2 = bt := ⟨_, rfl⟩
      have hb2 : bt < 2 := by rw [← hbt]; exact Nat.mod_lt _ (by decide)
      rw [hV, hbt] at hdh
      rw [hbt] at hao
      have h0 := HE.out
      rw [hx, hV] at h0
      have h1 := mod_dbl hr h0
      have HX : Hid (a % p = x) := hx
      have HD : Hid (v / 2 ^ j = 2 * V + bt) := hdh
      have H1 : Hid ((if p ≤ r * 2 then r * 2 - p else r * 2) = x * (2 * V) % p) := h1
      clear hx hV hdh hbt HE h0 h1
      have hb0 : bt = 0 ∨ bt = 1 := by omega
      rcases hb0 with rfl | rfl
      · have hbb : (bits .and .u64 ((v : Int) / 2 ^ j) 1 == 1) = false := by rw [hao]; rfl
        clear hao
        by_cases hc : p ≤ r * 2
        · go_wp2
          go_round
          case rel =>
            have h := H1.out
            rw [if_pos hc] at h
            refine ⟨j, r * 2 - p, by omega, by go_num, by go_num, by omega, ?_⟩
            show r * 2 - p = (a % p) * (v / 2 ^ j) % p
            rw [HX.out, HD.out, h]; rfl
          case measure => simp [intOf]
        · go_wp2
          go_round
          case rel =>
            have h := H1.out
            rw [if_neg hc] at h
            refine ⟨j, r * 2, by omega, by go_num, by go_num, by omega, ?_⟩
            show r * 2 = (a % p) * (v / 2 ^ j) % p
            rw [HX.out, HD.out, h]; rfl
          case measure => simp [intOf]
      · have hbb : (bits .and .u64 ((v : Int) / 2 ^ j) 1 == 1) = true := by rw [hao]; rfl
        clear hao
        by_cases hc : p ≤ r * 2
        · have h := H1.out
          rw [if_pos hc] at h
          have h2 := mod_add (by omega) hxp h
          have H2 : Hid ((if p ≤ r * 2 - p + x then r * 2 - p + x - p else r * 2 - p + x) = x * (2 * V + 1) % p) := h2
          clear h h2
          by_cases hc2 : p ≤ r * 2 - p + x
          · go_wp2
            go_round
            case rel =>
              have h := H2.out
              rw [if_pos hc2] at h
              refine ⟨j, r * 2 - p + x - p, by omega, by go_num, by go_num, by omega, ?_⟩
              show r * 2 - p + x - p = (a % p) * (v / 2 ^ j) % p
              rw [HX.out, HD.out, h]
            case measure => simp [intOf]
          · go_wp2
            go_round
            case rel =>
              have h := H2.out
              rw [if_neg hc2] at h
              refine ⟨j, r * 2 - p + x, by omega, by go_num, by go_num, by omega, ?_⟩
              show r * 2 - p + x = (a % p) * (v / 2 ^ j) % p
              rw [HX.out, HD.out, h]
            case measure => simp [intOf]
        · have h := H1.out
          rw [if_neg hc] at h
          have h2 := mod_add (by omega) hxp h
          have H2 : Hid ((if p ≤ r * 2 + x then r * 2 + x - p else r * 2 + x) = x * (2 * V + 1) % p) := h2
          clear h h2
          by_cases hc2 : p ≤ r * 2 + x
          · go_wp2
            go_round
            case rel =>
              have h := H2.out
              rw [if_pos hc2] at h
              refine ⟨j, r * 2 + x - p, by omega, by go_num, by go_num, by omega, ?_⟩
              show r * 2 + x - p = (a % p) * (v / 2 ^ j) % p
              rw [HX.out, HD.out, h]
            case measure => simp [intOf]
          · go_wp2
            go_round
            case rel =>
              have h := H2.out
              rw [if_neg hc2] at h
              refine ⟨j, r * 2 + x, by omega, by go_num, by go_num, by omega, ?_⟩
              show r * 2 + x = (a % p) * (v / 2 ^ j) % p
              rw [HX.out, HD.out, h]
            case measure => simp [intOf]
end Go.Proofs.Qxb6616348a
