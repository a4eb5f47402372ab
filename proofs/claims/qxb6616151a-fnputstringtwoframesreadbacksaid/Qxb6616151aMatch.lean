import Derived.Test.Qxb6616151aRead
import Derived.Test.Qxb6616151aClone
namespace Go.Proofs.Qxb6616151a
open Go.RowKit Go.Deep Go.Joins

theorem bys_at (s : ByteArray) (k : Nat) (h : k < s.size) : (bys s).getD k 0 = ((s[k]'h).toNat : Int) := by
  unfold bys
  have h2 : k < s.data.toList.length := by simpa using h
  rw [List.getD_eq_getElem?_getD, List.getElem?_map, List.getElem?_eq_getElem h2]
  rfl

set_option maxRecDepth 10000 in
set_option maxHeartbeats 1000000 in
theorem match10 (g N c i : Nat) (s : ByteArray) (w : World) (hN : N ≤ 8388608) (hi : i + s.size ≤ N)
    (hp : ∀ k, k < s.size → w.cell? ⟨g, i + k, none⟩ = some (.int .u8 ((bys s).getD k 0))) :
    Calls Try.prog 10 #[.slice (some ⟨g, 0, none⟩) N c, .int .i64 i, .string s] w fun e w' => e = .returned (.tuple #[.int .i64 ((i + s.size : Nat) : Int), .bool true]) ∧ ∃ d, w' = w.drewN d := by
  have HP : Hid (∀ k, k < s.size → w.cell? ⟨g, i + k, none⟩ = some (.int .u8 ((bys s).getD k 0))) := hp
  clear hp
  go_enter Try.func10, Try.ntmps10
  go_wp2
  go_loopw [8] (fun j wr => ∃ (k d : Nat), k ≤ s.size ∧ j = .int .i64 k ∧ wr = w.drewN d) (fun j _ => s.size - (intOf j).toNat)
  case atStart => exact ⟨0, 0, Nat.zero_le _, rfl, rfl⟩
  case round =>
    obtain ⟨k, d, hk, rfl, rfl⟩ := hrel
    by_cases hlt : k < s.size
    · have p := HP.out k hlt
      rw [bys_at s k hlt] at p
      clear HP
      go_wp2
      go_quiet (fail)
      go_wp2
      go_roundw
      case rel => exact ⟨k + 1, d + nq, by omega, by go_num, rfl⟩
      case measure => simp [intOf]; omega
    · clear HP
      go_wp2
      go_ret2
      exact ⟨by go_num, ⟨d, rfl⟩⟩
end Go.Proofs.Qxb6616151a
