import Derived.Test.Qxb6616109aDlA
namespace Go.Proofs.Qxb6616109a
open Go.RowKit Go.Deep Go.Joins
set_option linter.unusedVariables false
/-- Where IndexFunc finds the holder s: at 0, or nowhere. -/
def atOf (ho : Option Nat) (s : Nat) : Int := if ho = some s then 0 else -1

set_option maxHeartbeats 400000 in
theorem index36_35e (A : Option Addr) (cp : Nat) (s c : Nat) (w : World) :
    Calls Try.prog 36 #[.slice A 0 cp, .func (.func 35) #[] #[.pointer (some ⟨c, 0, none⟩)]] w fun e w' => e = .returned (.int .i64 (atOf none s)) ∧ Below w.heap.size w w' := by
  go_enter Try.func36, Try.ntmps36
  go_wp2
  refine wp_loop_once ?_
  go_wp2
  go_ret
  exact ⟨rfl, Below.refl _ _⟩

set_option maxHeartbeats 400000 in
theorem index36_35y (b cp : Nat) (s c : Nat) (w : World) (h4 : w.cell? ⟨b, 0, none⟩ = some (.int .i64 (s : Nat))) (h5 : w.cell? ⟨b, 1, none⟩ = some (.int .u8 2)) (hc : w.cell? ⟨c, 0, none⟩ = some (.int .i64 s)) :
    Calls Try.prog 36 #[.slice (some ⟨b, 0, none⟩) 1 cp, .func (.func 35) #[] #[.pointer (some ⟨c, 0, none⟩)]] w fun e w' => e = .returned (.int .i64 0) ∧ Below w.heap.size w w' := by
  have k := is35 s s 2 c w hc
  simp only [decide_true] at k
  go_enter Try.func36, Try.ntmps36
  go_wp2
  refine wp_loop_once ?_
  go_wp2_with (go_at_call 35; refine k.mono ?_; rintro e w' ⟨rfl, hB⟩)
  go_ret
  exact ⟨rfl, hB⟩

set_option maxHeartbeats 400000 in
theorem index36_35n (b cp : Nat) (t s c : Nat) (w : World) (hts : t ≠ s) (h4 : w.cell? ⟨b, 0, none⟩ = some (.int .i64 (t : Nat))) (h5 : w.cell? ⟨b, 1, none⟩ = some (.int .u8 2)) (hc : w.cell? ⟨c, 0, none⟩ = some (.int .i64 s)) :
    Calls Try.prog 36 #[.slice (some ⟨b, 0, none⟩) 1 cp, .func (.func 35) #[] #[.pointer (some ⟨c, 0, none⟩)]] w fun e w' => e = .returned (.int .i64 (-1)) ∧ Below w.heap.size w w' := by
  have k := is35 t s 2 c w hc
  simp only [hts, decide_false] at k
  go_enter Try.func36, Try.ntmps36
  go_wp2
  go_loopw [8] (fun i wr => (i = .int .i64 0 ∧ wr = w) ∨ (i = .int .i64 1 ∧ Below w.heap.size w wr)) (fun i _ => 1 - (intOf i).toNat)
  case atStart => exact .inl ⟨rfl, rfl⟩
  case round =>
    rcases hrel with ⟨rfl, hw⟩ | ⟨rfl, hB⟩
    · have hw := hw.symm
      subst hw
      go_wp2_with (go_at_call 35; refine k.mono ?_; rintro e w' ⟨rfl, hB⟩)
      go_roundw
      case rel => exact .inr ⟨rfl, hB⟩
      case measure => simp [intOf]
    · go_wp2
      go_ret
      exact ⟨rfl, hB⟩

theorem index36_35 (A : Option Addr) (l cp : Nat) (ho : Option Nat) (s c : Nat) (w : World) (hr : HRow w A l ho) (hc : w.cell? ⟨c, 0, none⟩ = some (.int .i64 s)) :
    Calls Try.prog 36 #[.slice A l cp, .func (.func 35) #[] #[.pointer (some ⟨c, 0, none⟩)]] w fun e w' => e = .returned (.int .i64 (atOf ho s)) ∧ Below w.heap.size w w' := by
  rcases hr with ⟨rfl, rfl⟩ | ⟨b, t, rfl, rfl, rfl, h4, h5⟩
  · exact index36_35e A cp s c w
  · by_cases hts : t = s
    · subst hts
      have e : atOf (some t) t = 0 := by simp [atOf]
      rw [e]
      exact index36_35y b cp t c w h4 h5 hc
    · have e : atOf (some t) s = -1 := by simp [atOf, hts]
      rw [e]
      exact index36_35n b cp t s c w hts h4 h5 hc

set_option maxHeartbeats 400000 in
theorem index36_64e (A : Option Addr) (cp : Nat) (s c : Nat) (w : World) :
    Calls Try.prog 36 #[.slice A 0 cp, .func (.func 64) #[] #[.pointer (some ⟨c, 0, none⟩)]] w fun e w' => e = .returned (.int .i64 (atOf none s)) ∧ Below w.heap.size w w' := by
  go_enter Try.func36, Try.ntmps36
  go_wp2
  refine wp_loop_once ?_
  go_wp2
  go_ret
  exact ⟨rfl, Below.refl _ _⟩

set_option maxHeartbeats 400000 in
theorem index36_64y (b cp : Nat) (s c : Nat) (w : World) (h4 : w.cell? ⟨b, 0, none⟩ = some (.int .i64 (s : Nat))) (h5 : w.cell? ⟨b, 1, none⟩ = some (.int .u8 2)) (hc : w.cell? ⟨c, 0, none⟩ = some (.int .i64 s)) :
    Calls Try.prog 36 #[.slice (some ⟨b, 0, none⟩) 1 cp, .func (.func 64) #[] #[.pointer (some ⟨c, 0, none⟩)]] w fun e w' => e = .returned (.int .i64 0) ∧ Below w.heap.size w w' := by
  have k := is64 s s 2 c w hc
  simp only [decide_true] at k
  go_enter Try.func36, Try.ntmps36
  go_wp2
  refine wp_loop_once ?_
  go_wp2_with (go_at_call 64; refine k.mono ?_; rintro e w' ⟨rfl, hB⟩)
  go_ret
  exact ⟨rfl, hB⟩

set_option maxHeartbeats 400000 in
theorem index36_64n (b cp : Nat) (t s c : Nat) (w : World) (hts : t ≠ s) (h4 : w.cell? ⟨b, 0, none⟩ = some (.int .i64 (t : Nat))) (h5 : w.cell? ⟨b, 1, none⟩ = some (.int .u8 2)) (hc : w.cell? ⟨c, 0, none⟩ = some (.int .i64 s)) :
    Calls Try.prog 36 #[.slice (some ⟨b, 0, none⟩) 1 cp, .func (.func 64) #[] #[.pointer (some ⟨c, 0, none⟩)]] w fun e w' => e = .returned (.int .i64 (-1)) ∧ Below w.heap.size w w' := by
  have k := is64 t s 2 c w hc
  simp only [hts, decide_false] at k
  go_enter Try.func36, Try.ntmps36
  go_wp2
  go_loopw [8] (fun i wr => (i = .int .i64 0 ∧ wr = w) ∨ (i = .int .i64 1 ∧ Below w.heap.size w wr)) (fun i _ => 1 - (intOf i).toNat)
  case atStart => exact .inl ⟨rfl, rfl⟩
  case round =>
    rcases hrel with ⟨rfl, hw⟩ | ⟨rfl, hB⟩
    · have hw := hw.symm
      subst hw
      go_wp2_with (go_at_call 64; refine k.mono ?_; rintro e w' ⟨rfl, hB⟩)
      go_roundw
      case rel => exact .inr ⟨rfl, hB⟩
      case measure => simp [intOf]
    · go_wp2
      go_ret
      exact ⟨rfl, hB⟩

theorem index36_64 (A : Option Addr) (l cp : Nat) (ho : Option Nat) (s c : Nat) (w : World) (hr : HRow w A l ho) (hc : w.cell? ⟨c, 0, none⟩ = some (.int .i64 s)) :
    Calls Try.prog 36 #[.slice A l cp, .func (.func 64) #[] #[.pointer (some ⟨c, 0, none⟩)]] w fun e w' => e = .returned (.int .i64 (atOf ho s)) ∧ Below w.heap.size w w' := by
  rcases hr with ⟨rfl, rfl⟩ | ⟨b, t, rfl, rfl, rfl, h4, h5⟩
  · exact index36_64e A cp s c w
  · by_cases hts : t = s
    · subst hts
      have e : atOf (some t) t = 0 := by simp [atOf]
      rw [e]
      exact index36_64y b cp t c w h4 h5 hc
    · have e : atOf (some t) s = -1 := by simp [atOf, hts]
      rw [e]
      exact index36_64n b cp t s c w hts h4 h5 hc

set_option maxHeartbeats 400000 in
theorem holds19 (p gHo nG g s : Nat) (A : Option Addr) (l cp : Nat) (ho : Option Nat) (w : World) (hg : g < nG) (hnG : nG ≤ 65536) (c0 : w.cell? ⟨p, 0, none⟩ = some (.slice (some ⟨gHo, 0, none⟩) nG nG)) (hro : w.cell? ⟨gHo, g, none⟩ = some (.slice A l cp)) (hr : HRow w A l ho) :
    Calls Try.prog 19 #[.pointer (some ⟨p, 0, none⟩), .int .i64 s, .int .i64 g] w fun e w' => e = .returned (.bool (decide (ho = some s))) ∧ Below w.heap.size w w' := by
  have hB0 : Below w.heap.size w (w.alloc (.cells #[.int .i64 (s : Int)] 3)) := (Below.refl _ _).alloc (Nat.le_refl _) _
  have hc1 : (w.alloc (.cells #[.int .i64 (s : Int)] 3)).cell? ⟨w.heap.size, 0, none⟩ = some (.int .i64 s) := by simp
  have k := index36_35 A l cp ho s w.heap.size _ (hr.later hB0) hc1
  have hp := World.block_lt_of_cell? w _ c0
  have hgh := World.block_lt_of_cell? w _ hro
  have HB0 : Hid (Below w.heap.size w (w.alloc (.cells #[.int .i64 (s : Int)] 3))) := hB0
  clear hr hc1 hB0
  have ha : ho = some s ∨ ho ≠ some s := Classical.em _
  rcases ha with ha | ha
  · have e0 : atOf ho s = 0 := by simp [atOf, ha]
    rw [e0] at k
    rw [decide_eq_true ha]
    clear e0 ha
    go_enter Try.func19, Try.ntmps19
    go_wp2_with (first | (go_at_call 36; refine k.mono ?_; rintro e w' ⟨rfl, hB⟩) | (go_at_call 34; go_in))
    go_ret
    exact ⟨rfl, HB0.out.trans (hB.mono (by simp))⟩
  · have e0 : atOf ho s = -1 := by simp [atOf, ha]
    rw [e0] at k
    rw [decide_eq_false ha]
    clear e0 ha
    go_enter Try.func19, Try.ntmps19
    go_wp2_with (first | (go_at_call 36; refine k.mono ?_; rintro e w' ⟨rfl, hB⟩) | (go_at_call 34; go_in))
    go_ret
    exact ⟨rfl, HB0.out.trans (hB.mono (by simp))⟩
end Go.Proofs.Qxb6616109a
