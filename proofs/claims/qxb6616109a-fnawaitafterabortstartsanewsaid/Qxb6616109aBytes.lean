import Derived.Test.Qxb6616109aBase
namespace Go.Proofs.Qxb6616109a
open Go.RowKit Go.Deep Go.Joins

set_option maxHeartbeats 1000000 in
theorem bytes12 (A0 A1 A2 A3 : Option Addr) (n0 c0 n1 c1 n2 c2 n3 c3 : Nat) (AA : Nat → Option Addr) (L CC : Nat → Nat) (w : World)
    (h0 : n0 ≤ maxLen) (h1 : n1 ≤ maxLen) (h2 : n2 ≤ maxLen) (h3 : n3 ≤ maxLen) (hL : ∀ r, r < n0 → L r ≤ maxLen)
    (hc : Cells w A0 n0 (fun r => .slice (AA r) (L r) (CC r))) :
    Calls Try.prog 12 #[.slice A0 n0 c0, .slice A1 n1 c1, .slice A2 n2 c2, .slice A3 n3 c3] w fun e w' => GaveOk e (∀ r, r < n0 → L r ≤ 1048576) ∧ w' = w := by
  unfold maxLen at h0 h1 h2 h3 hL
  go_enter Try.func12, Try.ntmps12
  go_wp2
  all_goals try (go_ret; exact ⟨gaveNo _, rfl⟩)
  have H4 : Hid (∀ r, r < n0 → L r ≤ 9223372036854775807) := hL
  clear hL
  go_loop [9, 10] (fun z i => ∃ (k : Nat) (s : Int), k ≤ n0 ∧ i = .int .i64 k ∧ z = .int .i64 s ∧ 0 ≤ s ∧ s ≤ 1048576 ∧ Hid (∀ r, r < k → L r ≤ 1048576)) (fun _ i => n0 - (intOf i).toNat)
  case atStart => exact ⟨0, _, Nat.zero_le _, rfl, rfl, by omega, by omega, fun r hr => by omega⟩
  case round =>
    obtain ⟨k, s, hk, rfl, rfl, hs0, hs1, HL⟩ := hrel
    by_cases hlt : k < n0
    · obtain ⟨b, off, rfl, hb, hcc⟩ := hc.lit (by omega)
      have hck := hcc k hlt
      have hLk := H4.out k hlt
      clear hc hcc
      go_wp2
      all_goals first | (go_ret; exact ⟨gaveNo _, rfl⟩) | skip
      all_goals
        go_round
        case rel => exact ⟨k + 1, _, by omega, by go_num, rfl, by omega, by omega, fun r hr => by by_cases e : r = k; (subst e; omega); exact HL.out r (by omega)⟩
        case measure => simp [intOf]; omega
    · have HA : Hid (∀ r, r < n0 → L r ≤ 1048576) := fun r hr => HL.out r (by omega)
      clear hc HL
      go_wp2
      all_goals first | (go_ret; exact ⟨gaveNo _, rfl⟩) | (go_ret; exact ⟨gaveYes HA.out, rfl⟩)
end Go.Proofs.Qxb6616109a
