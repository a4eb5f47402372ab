import Derived.Test.Qxb6616151aPut
namespace Go.Proofs.Qxb6616151a
open Go.RowKit Go.Deep Go.Joins

theorem and_fin : ∀ r : Fin 256, bits .and .u8 ((r.val : Nat) : Int) 127 = ((r.val % 128 : Nat) : Int) := by decide +kernel
theorem and_127 (q : Nat) (h : q < 256) : bits .and .u8 (q : Int) 127 = ((q % 128 : Nat) : Int) := and_fin ⟨q, h⟩
theorem wrap_small (x : Nat) (h : x < 4294967296) : IntKind.u64.wrap (x : Int) = (x : Int) := by rw [IntKind.wrap_u64]; omega
theorem or_shift (a b k : Nat) (ha : a < 2 ^ k) (hb : 2 ^ k * b + a < 18446744073709551616) : bits .or .u64 (a : Int) ((2 ^ k * b : Nat) : Int) = ((2 ^ k * b + a : Nat) : Int) := by
  rw [bits_or_u64_nat a (2 ^ k * b) (by omega) (by omega), Nat.or_comm, Nat.two_pow_add_eq_or_of_lt ha b]

def val1 (c0 : Int) : Int := bits .or .u64 0 (IntKind.u64.wrap (IntKind.u64.wrap (bits .and .u8 c0 127)))
def val2 (c0 c1 : Int) : Int := bits .or .u64 (val1 c0) (IntKind.u64.wrap (IntKind.u64.wrap (bits .and .u8 c1 127) * 128))
def val3 (c0 c1 c2 : Int) : Int := bits .or .u64 (val2 c0 c1) (IntKind.u64.wrap (IntKind.u64.wrap (bits .and .u8 c2 127) * 16384))

theorem val1_eq (q0 : Nat) (h : q0 < 256) : val1 q0 = ((q0 % 128 : Nat) : Int) := by
  unfold val1
  rw [and_127 q0 h, wrap_small _ (by omega), wrap_small _ (by omega)]
  have := or_shift 0 (q0 % 128) 0 (by decide) (by omega)
  simpa using this
theorem val2_eq (q0 q1 : Nat) (h0 : q0 < 256) (h1 : q1 < 256) : val2 q0 q1 = ((128 * (q1 % 128) + q0 % 128 : Nat) : Int) := by
  unfold val2
  rw [val1_eq q0 h0, and_127 q1 h1, wrap_small _ (by omega)]
  have e : ((q1 % 128 : Nat) : Int) * 128 = ((2 ^ 7 * (q1 % 128) : Nat) : Int) := by omega
  rw [e, wrap_small _ (by omega)]
  exact or_shift (q0 % 128) (q1 % 128) 7 (by omega) (by omega)
theorem val3_eq (q0 q1 q2 : Nat) (h0 : q0 < 256) (h1 : q1 < 256) (h2 : q2 < 256) : val3 q0 q1 q2 = ((16384 * (q2 % 128) + (128 * (q1 % 128) + q0 % 128) : Nat) : Int) := by
  unfold val3
  rw [val2_eq q0 q1 h0 h1, and_127 q2 h2, wrap_small _ (by omega)]
  have e : ((q2 % 128 : Nat) : Int) * 16384 = ((2 ^ 14 * (q2 % 128) : Nat) : Int) := by omega
  rw [e, wrap_small _ (by omega)]
  exact or_shift (128 * (q1 % 128) + q0 % 128) (q2 % 128) 14 (by omega) (by omega)

set_option maxRecDepth 10000 in
set_option maxHeartbeats 1000000 in
theorem rd1 (g N c i q0 : Nat) (w : World) (hN : N ≤ 8388608) (h0 : i < N) (b0 : q0 < 128)
    (p0 : w.cell? ⟨g, i, none⟩ = some (.int .u8 q0)) :
    Calls Try.prog 9 #[.slice (some ⟨g, 0, none⟩) N c, .int .i64 i] w fun e w' => e = .returned (.tuple #[.int .u64 (val1 q0), .int .i64 (i + 1), .bool true]) ∧ w' = w := by
  go_enter Try.func9, Try.ntmps9
  go_wp2
  refine wp_loop_rounds 1 ?_
  rw [rounds_succ]
  go_wp2
  go_ret3
  exact ⟨rfl, rfl⟩

set_option maxRecDepth 10000 in
set_option maxHeartbeats 1000000 in
theorem rd2 (g N c i q0 q1 : Nat) (w : World) (hN : N ≤ 8388608) (h0 : i + 1 < N) (b0 : 128 ≤ q0) (b1 : q0 < 256) (b2 : 0 < q1) (b3 : q1 < 128)
    (p0 : w.cell? ⟨g, i, none⟩ = some (.int .u8 q0)) (p1 : w.cell? ⟨g, i + 1, none⟩ = some (.int .u8 q1)) :
    Calls Try.prog 9 #[.slice (some ⟨g, 0, none⟩) N c, .int .i64 i] w fun e w' => e = .returned (.tuple #[.int .u64 (val2 q0 q1), .int .i64 (i + 1 + 1), .bool true]) ∧ w' = w := by
  go_enter Try.func9, Try.ntmps9
  go_wp2
  refine wp_loop_rounds 2 ?_
  rw [rounds_succ]
  go_wp2
  rw [rounds_succ]
  go_wp2
  go_ret3
  exact ⟨rfl, rfl⟩

set_option maxRecDepth 10000 in
set_option maxHeartbeats 1000000 in
theorem rd3 (g N c i q0 q1 q2 : Nat) (w : World) (hN : N ≤ 8388608) (h0 : i + 2 < N) (b0 : 128 ≤ q0) (b1 : q0 < 256) (b2 : 128 ≤ q1) (b3 : q1 < 256) (b4 : 0 < q2) (b5 : q2 < 128)
    (p0 : w.cell? ⟨g, i, none⟩ = some (.int .u8 q0)) (p1 : w.cell? ⟨g, i + 1, none⟩ = some (.int .u8 q1)) (p2 : w.cell? ⟨g, i + 2, none⟩ = some (.int .u8 q2)) :
    Calls Try.prog 9 #[.slice (some ⟨g, 0, none⟩) N c, .int .i64 i] w fun e w' => e = .returned (.tuple #[.int .u64 (val3 q0 q1 q2), .int .i64 (i + 2 + 1), .bool true]) ∧ w' = w := by
  go_enter Try.func9, Try.ntmps9
  go_wp2
  refine wp_loop_rounds 3 ?_
  rw [rounds_succ]
  go_wp2
  rw [rounds_succ]
  go_wp2
  rw [rounds_succ]
  go_wp2
  go_ret3
  exact ⟨rfl, rfl⟩

/-- zzReadUvarint reads back what AppendUvarint wrote: at place i lie the groups of x. -/
theorem rd9 (g N c i x : Nat) (w : World) (hN : N ≤ 8388608) (hx : x < 2097152) (hi : i + (uvF 2 x).length ≤ N)
    (hp : ∀ j, j < (uvF 2 x).length → w.cell? ⟨g, i + j, none⟩ = some (.int .u8 ((uvF 2 x).getD j 0))) :
    Calls Try.prog 9 #[.slice (some ⟨g, 0, none⟩) N c, .int .i64 i] w fun e w' => e = .returned (.tuple #[.int .u64 x, .int .i64 ((i + (uvF 2 x).length : Nat) : Int), .bool true]) ∧ w' = w := by
  by_cases h1 : x < 128
  · rw [uvF_small 2 x h1] at hi hp ⊢
    have h := rd1 g N c i x w hN (by simp at hi; omega) h1 (by simpa using hp 0 (by simp))
    refine h.mono fun e w' ⟨he, hw⟩ => ⟨?_, hw⟩
    rw [he, val1_eq x (by omega)]
    simp; omega
  · by_cases h2 : x < 16384
    · have e : uvF 2 x = [((x % 128 + 128 : Nat) : Int), ((x / 128 : Nat) : Int)] := by rw [uvF_big 1 x h1, uvF_small 1 _ (by omega)]
      rw [e] at hi hp ⊢
      have h := rd2 g N c i (x % 128 + 128) (x / 128) w hN (by simp at hi; omega) (by omega) (by omega) (by omega) (by omega) (by simpa using hp 0 (by simp)) (by simpa using hp 1 (by simp))
      refine h.mono fun e w' ⟨he, hw⟩ => ⟨?_, hw⟩
      rw [he, val2_eq _ _ (by omega) (by omega)]
      simp; omega
    · have e : uvF 2 x = [((x % 128 + 128 : Nat) : Int), ((x / 128 % 128 + 128 : Nat) : Int), ((x / 128 / 128 : Nat) : Int)] := by rw [uvF_big 1 x h1, uvF_big 0 _ (by omega)]; rfl
      rw [e] at hi hp ⊢
      have h := rd3 g N c i (x % 128 + 128) (x / 128 % 128 + 128) (x / 128 / 128) w hN (by simp at hi; omega) (by omega) (by omega) (by omega) (by omega) (by omega) (by omega) (by simpa using hp 0 (by simp)) (by simpa using hp 1 (by simp)) (by simpa using hp 2 (by simp))
      refine h.mono fun e w' ⟨he, hw⟩ => ⟨?_, hw⟩
      rw [he, val3_eq _ _ _ (by omega) (by omega) (by omega)]
      simp; omega
end Go.Proofs.Qxb6616151a
