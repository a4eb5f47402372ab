import Derived.Test.Qxb6616109aDlT
namespace Go.Proofs.Qxb6616109a
open Go.RowKit Go.Deep Go.Joins
set_option linter.unusedSimpArgs false
set_option linter.unusedVariables false

/-- The row with its first and last i elements of n exchanged. -/
def rv (f : Nat → Value) (n i : Nat) : Nat → Value := fun p => if p < n ∧ (p < i ∨ n - 1 - i < p) then f (n - 1 - p) else f p
theorem rv_step (f : Nat → Value) (n i : Nat) (h : i < n - 1 - i) : (fun p => if p = n - 1 - i then rv f n i i else if p = i then rv f n i (n - 1 - i) else rv f n i p) = rv f n (i + 1) := by
  funext p
  unfold rv
  by_cases h1 : p = n - 1 - i
  · subst h1
    rw [if_pos rfl, if_neg (by omega), if_pos (by omega)]
    congr 1
    omega
  · rw [if_neg h1]
    by_cases h2 : p = i
    · subst h2
      rw [if_pos rfl, if_neg (by omega), if_pos (by omega)]
    · rw [if_neg h2]
      by_cases h3 : p < n ∧ (p < i ∨ n - 1 - i < p)
      · rw [if_pos h3, if_pos (by omega)]
      · rw [if_neg h3, if_neg (by omega)]

/-- Nothing but block g has turned. -/
structure OnlyB (w w' : World) (g : Nat) : Prop where
  os : w'.os = w.os
  tape : w'.tape = w.tape
  output : w'.output = w.output
  size : w'.heap.size = w.heap.size
  block : ∀ b, b ≠ g → w'.heap[b]? = w.heap[b]?

set_option maxHeartbeats 2000000 in
set_option maxRecDepth 100000 in
theorem reverse83 (g n cap : Nat) (f : Nat → Value) (w : World) (h : w.rowIs g 3 cap f) (hint : ∀ i, i < n → ∃ z : Int, f i = .int .i64 z) (hn : n ≤ cap) (hn2 : n ≤ 65536) :
    Calls Try.prog 83 #[.slice (some ⟨g, 0, none⟩) n cap] w fun e w' => e = .returned (.tuple #[]) ∧ w'.rowIs g 3 cap (rv f n n) ∧ OnlyB w w' g := by
  go_enter Try.func83, Try.ntmps83
  go_wp2_with fail
  go_loopw [2, 3] (fun i j wr => ∃ k : Nat, k ≤ n ∧ (k ≤ n - 1 - k + 1) ∧ i = .int .i64 (k : Nat) ∧ j = .int .i64 ((n : Int) - 1 - (k : Int)) ∧ wr.rowIs g 3 cap (rv f n k) ∧ OnlyB w wr g) (fun i _ _ => n - (intOf i).toNat)
  case atStart =>
    refine ⟨0, by omega, by omega, rfl, by simp, ?_, ⟨rfl, rfl, rfl, rfl, fun _ _ => rfl⟩⟩
    refine h.congr fun i hi => ?_
    unfold rv
    rw [if_neg (by omega)]
  case round =>
    obtain ⟨k, hk, hk2, rfl, rfl, hrow, hO⟩ := hrel
    by_cases hlt : k < n - 1 - k
    · obtain ⟨j, hj⟩ : ∃ j, n - 1 - k = j := ⟨_, rfl⟩
      have hji : (n : Int) - 1 - (k : Int) = (j : Int) := by omega
      rw [hji]
      have hv : ∀ p, p < n → ∃ z : Int, rv f n k p = .int .i64 z := fun p hp => by
        unfold rv
        split
        · exact hint _ (by omega)
        · exact hint _ hp
      obtain ⟨y, hy⟩ := hv k (by omega)
      obtain ⟨z, hz⟩ := hv j (by omega)
      have c1 : wr.cell? ⟨g, k, none⟩ = some (.int .i64 y) := by rw [hrow.cell (by omega), hy]
      have c2 : wr.cell? ⟨g, j, none⟩ = some (.int .i64 z) := by rw [hrow.cell (by omega), hz]
      have f1 : wr.frozen? ⟨g, k, none⟩ = false := hrow.frozen k
      have f2 : wr.frozen? ⟨g, j, none⟩ = false := hrow.frozen j
      have r2 : (((wr.drew).setCell ⟨g, k, none⟩ (.int .i64 z)).setCell ⟨g, j, none⟩ (.int .i64 y)).rowIs g 3 cap (rv f n (k + 1)) := by
        have r1 : wr.drew.rowIs g 3 cap (rv f n k) := hrow
        refine ((r1.set k _).set j _).congr fun p hp => ?_
        rw [← rv_step _ n k hlt, hj, hy, hz]
      have O2 : OnlyB w (((wr.drew).setCell ⟨g, k, none⟩ (.int .i64 z)).setCell ⟨g, j, none⟩ (.int .i64 y)) g := ⟨hO.os, hO.tape, hO.output, by rw [nblk_setCell, nblk_setCell]; exact hO.size, fun b hb => by
        rw [Below.heap_setCell _ _ _ _ (by simpa using hb), Below.heap_setCell _ _ _ _ (by simpa using hb)]; exact hO.block b hb⟩
      have R2 : Hid ((((wr.drew).setCell ⟨g, k, none⟩ (.int .i64 z)).setCell ⟨g, j, none⟩ (.int .i64 y)).rowIs g 3 cap (rv f n (k + 1))) := r2
      have HO2 : Hid (OnlyB w (((wr.drew).setCell ⟨g, k, none⟩ (.int .i64 z)).setCell ⟨g, j, none⟩ (.int .i64 y)) g) := O2
      have hkj : ¬ (k = j) := by omega
      have hjk : ¬ (j = k) := by omega
      have t1 : decide ((k : Int) < (j : Int)) = true := decide_eq_true (by omega)
      clear h hrow hO r2 O2 hy hz hv hint
      go_wp2_with fail
      go_region
      all_goals
        go_wp2
        go_roundw
        case rel => exact ⟨k + 1, by omega, by omega, by go_num, by go_num, R2.out, HO2.out⟩
        case measure => simp [intOf]; omega
    · have t1 : decide ((k : Int) < (n : Int) - 1 - (k : Int)) = false := decide_eq_false (by omega)
      have HR : Hid (wr.rowIs g 3 cap (rv f n n) ∧ OnlyB w wr g) := by
        refine ⟨hrow.congr fun p hp => ?_, hO⟩
        unfold rv
        by_cases e1 : p < n ∧ (p < k ∨ n - 1 - k < p)
        · rw [if_pos e1, if_pos (by omega)]
        · rw [if_neg e1]
          by_cases e2 : p < n ∧ (p < n ∨ n - 1 - n < p)
          · rw [if_pos e2]
            have : n - 1 - p = p := by omega
            rw [this]
          · rw [if_neg e2]
      clear h hrow hO
      go_wp2
      go_end0
      exact ⟨rfl, HR.out.1, HR.out.2⟩
end Go.Proofs.Qxb6616109a
