import Derived.Test.Qxb6616109aDlL
namespace Go.Proofs.Qxb6616109a
open Go.RowKit Go.Deep Go.Joins
set_option linter.unusedSimpArgs false
set_option linter.unusedVariables false

set_option maxHeartbeats 400000 in
theorem index36_21e (A : Option Addr) (cp : Nat) (s c : Nat) (w : World) :
    Calls Try.prog 36 #[.slice A 0 cp, .func (.func 21) #[] #[.pointer (some ⟨c, 0, none⟩)]] w fun e w' => e = .returned (.int .i64 (atOf none s)) ∧ Below w.heap.size w w' := by
  go_enter Try.func36, Try.ntmps36
  go_wp2
  refine wp_loop_once ?_
  go_wp2
  go_ret
  exact ⟨rfl, Below.refl _ _⟩

set_option maxHeartbeats 400000 in
theorem index36_21y (b cp : Nat) (s c : Nat) (w : World) (h4 : w.cell? ⟨b, 0, none⟩ = some (.int .i64 (s : Nat))) (h5 : w.cell? ⟨b, 1, none⟩ = some (.int .u8 2)) (hc : w.cell? ⟨c, 0, none⟩ = some (.int .i64 s)) :
    Calls Try.prog 36 #[.slice (some ⟨b, 0, none⟩) 1 cp, .func (.func 21) #[] #[.pointer (some ⟨c, 0, none⟩)]] w fun e w' => e = .returned (.int .i64 0) ∧ Below w.heap.size w w' := by
  have k := is21 s s 2 c w hc
  simp only [decide_true] at k
  go_enter Try.func36, Try.ntmps36
  go_wp2
  refine wp_loop_once ?_
  go_wp2_with (go_at_call 21; refine k.mono ?_; rintro e w' ⟨rfl, hB⟩)
  go_ret
  exact ⟨rfl, hB⟩

set_option maxHeartbeats 400000 in
theorem index36_21n (b cp : Nat) (t s c : Nat) (w : World) (hts : t ≠ s) (h4 : w.cell? ⟨b, 0, none⟩ = some (.int .i64 (t : Nat))) (h5 : w.cell? ⟨b, 1, none⟩ = some (.int .u8 2)) (hc : w.cell? ⟨c, 0, none⟩ = some (.int .i64 s)) :
    Calls Try.prog 36 #[.slice (some ⟨b, 0, none⟩) 1 cp, .func (.func 21) #[] #[.pointer (some ⟨c, 0, none⟩)]] w fun e w' => e = .returned (.int .i64 (-1)) ∧ Below w.heap.size w w' := by
  have k := is21 t s 2 c w hc
  simp only [hts, decide_false] at k
  go_enter Try.func36, Try.ntmps36
  go_wp2
  go_loopw [8] (fun i wr => (i = .int .i64 0 ∧ wr = w) ∨ (i = .int .i64 1 ∧ Below w.heap.size w wr)) (fun i _ => 1 - (intOf i).toNat)
  case atStart => exact .inl ⟨rfl, rfl⟩
  case round =>
    rcases hrel with ⟨rfl, hw⟩ | ⟨rfl, hB⟩
    · have hw := hw.symm
      subst hw
      go_wp2_with (go_at_call 21; refine k.mono ?_; rintro e w' ⟨rfl, hB⟩)
      go_roundw
      case rel => exact .inr ⟨rfl, hB⟩
      case measure => simp [intOf]
    · go_wp2
      go_ret
      exact ⟨rfl, hB⟩

theorem index36_21 (A : Option Addr) (l cp : Nat) (ho : Option Nat) (s c : Nat) (w : World) (hr : HRow w A l ho) (hc : w.cell? ⟨c, 0, none⟩ = some (.int .i64 s)) :
    Calls Try.prog 36 #[.slice A l cp, .func (.func 21) #[] #[.pointer (some ⟨c, 0, none⟩)]] w fun e w' => e = .returned (.int .i64 (atOf ho s)) ∧ Below w.heap.size w w' := by
  rcases hr with ⟨rfl, rfl⟩ | ⟨b, t, rfl, rfl, rfl, h4, h5⟩
  · exact index36_21e A cp s c w
  · by_cases hts : t = s
    · subst hts
      have e : atOf (some t) t = 0 := by simp [atOf]
      rw [e]
      exact index36_21y b cp t c w h4 h5 hc
    · have e : atOf (some t) s = -1 := by simp [atOf, hts]
      rw [e]
      exact index36_21n b cp t s c w hts h4 h5 hc

theorem zero2 : (Builtin.zeroCells #[Value.int IntKind.i64 0, Value.int IntKind.u8 0] 1).toList = [Value.int IntKind.i64 0, Value.int IntKind.u8 0] := by kernel_rfl
theorem run_clear1 (b cp : Nat) (x y : Value) (w : World) (h0 : w.cell? ⟨b, 0, none⟩ = some x) (h1 : w.cell? ⟨b, 1, none⟩ = some y) (f0 : w.frozen? ⟨b, 0, none⟩ = false) (f1 : w.frozen? ⟨b, 1, none⟩ = false) :
    (Builtin.clear_ #[57] 0 #[.slice (some ⟨b, 0, none⟩) 1 cp]).run Try.prog w = .ok (.tuple #[]) ((w.setCell ⟨b, 0, none⟩ (.int .i64 0)).setCell ⟨b, 1, none⟩ (.int .u8 0)) := by
  simp [Builtin.clear_, run_underlying Try.underlying57, Try.zeroValue60, go_sem, zero2, h0, h1, f0, f1]

set_option maxHeartbeats 1000000 in
set_option maxRecDepth 100000 in
theorem del20 (b cp t c : Nat) (w : World) (h0 : w.cell? ⟨b, 0, none⟩ = some (.int .i64 (t : Nat))) (h1 : w.cell? ⟨b, 1, none⟩ = some (.int .u8 2)) (f0 : w.frozen? ⟨b, 0, none⟩ = false) (f1 : w.frozen? ⟨b, 1, none⟩ = false) (hcp : 1 ≤ cp) (hcm : cp ≤ maxLen) (hc : w.cell? ⟨c, 0, none⟩ = some (.int .i64 t)) (hcb : c ≠ b) :
    Calls Try.prog 20 #[.slice (some ⟨b, 0, none⟩) 1 cp, .func (.func 21) #[] #[.pointer (some ⟨c, 0, none⟩)]] w fun e w' => e = .returned (.slice (some ⟨b, 0, none⟩) 0 cp) ∧ ∃ w1, Below w.heap.size w w1 ∧ w' = (w1.setCell ⟨b, 0, none⟩ (.int .i64 0)).setCell ⟨b, 1, none⟩ (.int .u8 0) := by
  have k := index36_21y b cp t c w h0 h1 hc
  go_enter Try.func20, Try.ntmps20
  go_wp2_with fail
  refine k.mono ?_
  rintro e w1 ⟨rfl, hB⟩
  have g0 := (hB.cell (World.block_lt_of_cell? w _ h0)).trans h0
  have g1 := (hB.cell (World.block_lt_of_cell? w _ h1)).trans h1
  have e0 := (World.frozen?_of_block (hB.block b (World.block_lt_of_cell? w _ h0))).trans f0
  have e1 := (World.frozen?_of_block (hB.block b (World.block_lt_of_cell? w _ h0))).trans f1
  clear k h0 h1 f0 f1 hc
  dsimp only
  go_wp2
  refine wp_loop_once ?_
  have hcl := run_clear1 b cp _ _ w1 g0 g1 e0 e1
  go_wp2
  go_ret
  exact ⟨rfl, w1, hB, rfl⟩
end Go.Proofs.Qxb6616109a
