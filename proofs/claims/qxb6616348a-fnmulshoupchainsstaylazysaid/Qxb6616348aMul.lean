import Derived.Test.Qxb6616348aQuot
import Derived.Lib.Mul64
import Derived.Laws.Bits64b
namespace Go.Proofs.Qxb6616348a
open Go.RowKit

theorem mask32 (a : Nat) (ha : a < 18446744073709551616) : bits .and .u64 (a : Int) 4294967295 = ((a % 4294967296 : Nat) : Int) := by
  have h := bits_and_u64_nat a 4294967295 ha (by omega)
  have e : a &&& 4294967295 = a % 4294967296 := Nat.and_two_pow_sub_one_eq_mod a 32
  rw [e] at h
  exact h
theorem div32 (a : Nat) : (a : Int) / 4294967296 = ((a / 4294967296 : Nat) : Int) := by omega
theorem mul_cast (a b : Nat) : (a : Int) * (b : Int) = ((a * b : Nat) : Int) := (Int.natCast_mul a b).symm
theorem add_cast (a b : Nat) : (a : Int) + (b : Int) = ((a + b : Nat) : Int) := (Int.natCast_add a b).symm
theorem wrap_small (a : Nat) (ha : a < 18446744073709551616) : IntKind.u64.wrap (a : Int) = (a : Int) := by rw [IntKind.wrap_u64]; omega
theorem wrap_mod (a : Nat) : IntKind.u64.wrap (a : Int) = ((a % 18446744073709551616 : Nat) : Int) := by rw [IntKind.wrap_u64]; omega

set_option maxHeartbeats 1000000 in
theorem mul22 (x y : Nat) (hx : x < 18446744073709551616) (hy : y < 18446744073709551616) (w : World) :
    Calls Try.prog 22 #[.int .u64 x, .int .u64 y] w fun e w' => e = .returned (.tuple #[.int .u64 ((x * y / 18446744073709551616 : Nat) : Int), .int .u64 ((x * y % 18446744073709551616 : Nat) : Int)]) ∧ w' = w := by
  obtain ⟨bd, bt, bw, hhi⟩ := Lib.mul64_hi x y hx hy
  have ba := Lib.half_mul_le (a := x / 4294967296) (b := y / 4294967296) (by omega) (by omega)
  have bb := Lib.half_mul_le (a := x / 4294967296) (b := y % 4294967296) (by omega) (by omega)
  have bc := Lib.half_mul_le (a := x % 4294967296) (b := y / 4294967296) (by omega) (by omega)
  have ba' : x / 4294967296 * (y / 4294967296) < 18446744073709551616 := by omega
  have bb' : x / 4294967296 * (y % 4294967296) < 18446744073709551616 := by omega
  have bc' : x % 4294967296 * (y / 4294967296) < 18446744073709551616 := by omega
  have bh1 : x / 4294967296 * (y / 4294967296) + (x / 4294967296 * (y % 4294967296) + x % 4294967296 * (y % 4294967296) / 4294967296) / 4294967296 < 18446744073709551616 := by omega
  have bh : x / 4294967296 * (y / 4294967296) + (x / 4294967296 * (y % 4294967296) + x % 4294967296 * (y % 4294967296) / 4294967296) / 4294967296 + ((x / 4294967296 * (y % 4294967296) + x % 4294967296 * (y % 4294967296) / 4294967296) % 4294967296 + x % 4294967296 * (y / 4294967296)) / 4294967296 < 18446744073709551616 := by omega
  go_enter Try.func22, Try.ntmps22
  go_wp2
  simp only [mask32 x hx, mask32 y hy, div32, mul_cast, add_cast, wrap_small _ bd, wrap_small _ bb', wrap_small _ bt, mask32 _ bt, wrap_small _ bc', wrap_small _ bw, wrap_small _ ba', wrap_small _ bh1, wrap_small _ bh, wrap_mod (x * y)]
  rw [hhi]
  go_ret2
  exact ⟨rfl, rfl⟩

/-- Shoup's lazy product: a·u less the estimated quotient times p. -/
def lazyM (a u p : Nat) : Nat := a * u - a * shQ u p / 2 ^ 64 * p

/-- The arithmetic: the estimate is at most the product, and falls short of it by less than 2p. -/
theorem lazy_le (a u p : Nat) (hp : 0 < p) (ha : a < 2 ^ 64) : a * shQ u p / 2 ^ 64 * p ≤ a * u ∧ a * u < a * shQ u p / 2 ^ 64 * p + 2 * p := by
  have h1 : p * shQ u p + u * 2 ^ 64 % p = u * 2 ^ 64 := Nat.div_add_mod _ _
  have hr : u * 2 ^ 64 % p < p := Nat.mod_lt _ hp
  obtain ⟨s, hs⟩ : ∃ s, shQ u p = s := ⟨_, rfl⟩
  obtain ⟨r0, hr0⟩ : ∃ r, u * 2 ^ 64 % p = r := ⟨_, rfl⟩
  rw [hs, hr0] at h1
  rw [hr0] at hr
  rw [hs]
  have h2 : 2 ^ 64 * (a * s / 2 ^ 64) + a * s % 2 ^ 64 = a * s := Nat.div_add_mod _ _
  have ht : a * s % 2 ^ 64 < 2 ^ 64 := Nat.mod_lt _ (by decide)
  obtain ⟨q, hq⟩ : ∃ q, a * s / 2 ^ 64 = q := ⟨_, rfl⟩
  obtain ⟨t, ht0⟩ : ∃ t, a * s % 2 ^ 64 = t := ⟨_, rfl⟩
  rw [hq, ht0] at h2
  rw [ht0] at ht
  rw [hq]
  -- (a·u)·2^64 = q·p·2^64 + t·p + a·r0
  have e : a * u * 2 ^ 64 = q * p * 2 ^ 64 + t * p + a * r0 := by
    rw [Nat.mul_assoc, ← h1, Nat.mul_add, Nat.mul_comm p s, ← Nat.mul_assoc, ← h2, Nat.add_mul, Nat.mul_assoc (2 ^ 64) q p, Nat.mul_comm (2 ^ 64) (q * p)]
  have b1 : t * p ≤ (2 ^ 64 - 1) * p := Nat.mul_le_mul_right p (by omega)
  have b2 : a * r0 ≤ (2 ^ 64 - 1) * p := Nat.mul_le_mul (by omega) (by omega)
  generalize a * u = A at *
  generalize q * p = B at *
  generalize t * p = C at *
  generalize a * r0 = D at *
  omega
theorem lazy_lt (a u p : Nat) (hp : 0 < p) (ha : a < 2 ^ 64) : lazyM a u p < 2 * p := by
  have h := lazy_le a u p hp ha
  show a * u - a * shQ u p / 2 ^ 64 * p < 2 * p
  omega
theorem lazy_mod (a u p : Nat) (hp : 0 < p) (ha : a < 2 ^ 64) : lazyM a u p % p = mulM a u p := by
  have h := lazy_le a u p hp ha
  show (a * u - a * shQ u p / 2 ^ 64 * p) % p = a * u % p
  rw [Nat.mul_comm (a * shQ u p / 2 ^ 64) p, Nat.sub_mul_mod (by rw [Nat.mul_comm]; exact h.1)]
theorem shQ_lt (u p : Nat) (hu : u < p) : shQ u p < 2 ^ 64 := by
  show u * 2 ^ 64 / p < 2 ^ 64
  rw [Nat.div_lt_iff_lt_mul (by omega), Nat.mul_comm]
  exact Nat.mul_lt_mul_of_pos_left hu (by decide)

set_option maxHeartbeats 1000000 in
theorem mul17 (a u p : Nat) (w : World) (ha : a < 18446744073709551616) (hp : p < 9223372036854775808) (hu : u < p) :
    Calls Try.prog 17 #[.int .u64 a, .int .u64 u, .int .u64 (shQ u p : Nat), .int .u64 p] w fun e w' => e = .returned (.int .u64 (lazyM a u p : Nat)) ∧ w' = w := by
  have hL := lazy_le a u p (by omega) (by omega)
  have hq := shQ_lt u p hu
  have HL : Hid (lazyM a u p = a * u - a * shQ u p / 18446744073709551616 * p) := rfl
  obtain ⟨s, hs⟩ : ∃ s, shQ u p = s := ⟨_, rfl⟩
  rw [hs] at hL hq HL ⊢
  have c := mul22 a s ha (by omega) w
  obtain ⟨q, hq2⟩ : ∃ q, a * s / 18446744073709551616 = q := ⟨_, rfl⟩
  obtain ⟨lo, hlo⟩ : ∃ lo, a * s % 18446744073709551616 = lo := ⟨_, rfl⟩
  rw [hq2, hlo] at c
  rw [hq2] at HL
  rw [show (2 : Nat) ^ 64 = 18446744073709551616 from rfl, hq2] at hL
  clear hq2 hlo hs
  go_enter Try.func17, Try.ntmps17
  go_wp2_with (go_at_call 22; refine c.mono ?_; rintro e w' ⟨rfl, hw⟩; rw [hw])
  simp only [mul_cast]
  go_ret
  rw [HL.out]
  generalize a * u = A at *
  generalize q * p = B at *
  refine ⟨?_, rfl⟩
  have e : IntKind.u64.wrap (IntKind.u64.wrap (A : Int) - IntKind.u64.wrap (B : Int)) = ((A - B : Nat) : Int) := by
    rw [IntKind.wrap_u64, IntKind.wrap_u64, IntKind.wrap_u64]
    omega
  rw [e]
  rfl

theorem mul7 (a u p : Nat) (w : World) (ha : a < 18446744073709551616) (hp : p < 9223372036854775808) (hu : u < p) :
    Calls Try.prog 7 #[.int .u64 a, .int .u64 u, .int .u64 (shQ u p : Nat), .int .u64 p] w fun e w' => e = .returned (.int .u64 (lazyM a u p : Nat)) ∧ w' = w := by
  have c := mul17 a u p w ha hp hu
  go_enter Try.func7, Try.ntmps7
  go_wp2_with (go_at_call 17; refine c.mono ?_; rintro e w' ⟨rfl, hw⟩; rw [hw])
  go_ret
  exact ⟨rfl, rfl⟩
end Go.Proofs.Qxb6616348a
