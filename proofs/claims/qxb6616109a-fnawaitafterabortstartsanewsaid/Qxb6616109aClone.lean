import Derived.Test.Qxb6616109aBase
namespace Go.Proofs.Qxb6616109a
open Go.RowKit Go.Deep Go.Joins

set_option maxHeartbeats 400000 in
theorem clone_nil (w : World) : Calls Try.prog 26 #[.slice none 0 0] w fun e w' => e = .returned (.slice none 0 0) ∧ w' = w := by
  have hq := fun (w : World) (a : Option Addr) (n c n' c' : Nat) => Lib.run_eql_slice_nil (P := Try.prog) w 25 3 a n c n' c' Try.underlying25
  go_enter Try.func26, Try.ntmps26
  go_wp2
  go_ret
  exact ⟨rfl, rfl⟩

set_option maxHeartbeats 400000 in
theorem clone_some (ad : Addr) (len cap : Nat) (zs : List Int) (w : World) (hl : zs.length = len) (hm : len ≤ 17592186040320)
    (hc : Cells w (some ad) len (fun i => .int .i64 (zs.getD i 0))) :
    Calls Try.prog 26 #[.slice (some ad) len cap] w fun e w' => e = .returned (.slice (some ⟨w.heap.size, 0, none⟩) len len) ∧
      w' = w.alloc (.cells (zs.map (Value.int .i64)).toArray 3) := by
  have hq := fun (w : World) (a : Option Addr) (n c n' c' : Nat) => Lib.run_eql_slice_nil (P := Try.prog) w 25 3 a n c n' c' Try.underlying25
  have hmk := run_make_row' (P := Try.prog) 25 3 (.int .i64 0) 8 Try.underlying25 info3 rfl .i64 .i64 len (by omega) (by omega)
  go_enter Try.func26, Try.ntmps26
  go_wp2
  go_loopw [4] (fun i wr => ∃ (k : Nat) (c : Array Value), k ≤ len ∧ i = .int .i64 k ∧ wr = w.alloc (.cells c 3) ∧ c.size = len ∧ ∀ j, j < k → c[j]? = some (.int .i64 (zs.getD j 0))) (fun i _ => len - (intOf i).toNat)
  case atStart => exact ⟨0, _, Nat.zero_le _, rfl, rfl, size_madeCells _ _, fun j hj => absurd hj (Nat.not_lt_zero _)⟩
  case round =>
    obtain ⟨k, c, hk, rfl, rfl, hsz, hcs⟩ := hrel
    have HC : Hid (∀ j, j < k → c[j]? = some (.int .i64 (zs.getD j 0))) := hcs
    clear hcs
    by_cases hlt : k < len
    · obtain ⟨b, off, had, hb, hcc⟩ := hc.lit (by omega)
      simp only [Option.some.injEq] at had
      subst had
      have hck : ∀ o, (w.alloc o).cell? ⟨b, off + k, none⟩ = some (.int .i64 (zs.getD k 0)) := fun o => by rw [World.cell?_alloc_lt]; exact hcc k hlt; exact hb
      have hsk : k < c.size := by omega
      clear hc hcc
      go_wp2
      go_roundw
      case rel => exact ⟨k + 1, _, by omega, by go_num, rfl, by simpa using hsz, fill_step (f := fun j => .int .i64 (zs.getD j 0)) (by simp [show k < zs.length by omega]) hsk HC.out⟩
      case measure => simp [intOf]; omega
    · clear hc
      go_wp2
      go_ret
      refine ⟨rfl, ?_⟩
      rw [fill_done hl hsz (fun j hj => HC.out j (by omega))]

/-- zzCloneInts: whatever slice: a row of the call's own with the same integers. -/
theorem clone_own (A : Option Addr) (n c : Nat) (zs : List Int) (w : World) (hA : A = none → n = 0 ∧ c = 0) (hl : zs.length = n) (hm : n ≤ 17592186040320)
    (hc : Cells w A n (fun i => .int .i64 (zs.getD i 0))) :
    Calls Try.prog 26 #[.slice A n c] w fun e w' => ∃ A' c', e = .returned (.slice A' n c') ∧ w'.ownsRow w.heap.size 3 1 (.slice A' n c') n (zs.map (Value.int .i64)) ∧ w.grownBy w' none := by
  cases A with
  | none =>
    obtain ⟨rfl, rfl⟩ := hA rfl
    refine (clone_nil w).mono fun e w' ⟨he, hw⟩ => ?_
    subst hw
    obtain rfl : zs = [] := List.eq_nil_of_length_eq_zero hl
    exact ⟨none, 0, he, World.ownsRow_nil _ _ _ _, ⟨rfl, rfl, rfl, Nat.le_refl _, fun _ _ _ => rfl⟩⟩
  | some ad =>
    refine (clone_some ad n c zs w hl hm hc).mono fun e w' ⟨he, hw⟩ => ?_
    subst hw
    refine ⟨_, _, he, ⟨by simp [hl], .inr ⟨_, _, _, rfl, Nat.le_refl _, heap_alloc_new w _, Nat.le_refl _, by unfold maxLen; omega, by simp [hl], ?_⟩⟩, World.grownBy_alloc w _ none⟩
    simp
    exact List.take_of_length_le (by simp [hl])
end Go.Proofs.Qxb6616109a
