import Derived.Test.Qxb6616154aRows
import Derived.WalkKit
import Derived.ProofKit
import Derived.OpenShut
import Derived.WalkSpells
import Derived.WalkLawsBesides
import Derived.BigQuiet
import Derived.Deep.QuietTactic
namespace Go.Proofs.Qxb6616154a
open Go.RowKit
set_option maxHeartbeats 1000000 in
theorem readers11 (w : World) : Calls Try.prog 11 #[] w fun e w' => e = .returned (.slice (some ⟨w.heap.size, 0, none⟩) 2 2) ∧ w' = w.alloc (.cells #[.string ⟨#[99, 101, 114, 116, 116, 111, 111, 108]⟩, .string ⟨#[108, 111, 97, 100, 101, 114]⟩] 37) := by
  go_enter Try.func11, Try.ntmps11
  go_wp2
  go_ret
  exact ⟨rfl, rfl⟩

set_option maxHeartbeats 1000000 in
theorem ok12 (g : Nat) (w : World) (c0 : w.cell? ⟨g, 0, none⟩ = some (.string ⟨#[99, 101, 114, 116, 116, 111, 111, 108]⟩)) (c1 : w.cell? ⟨g, 1, none⟩ = some (.string ⟨#[108, 111, 97, 100, 101, 114]⟩)) :
    Calls Try.prog 12 #[.slice (some ⟨g, 0, none⟩) 2 2] w fun e w' => e = .returned (.bool true) ∧ ∃ d, w' = w.drewN d := by
  go_enter Try.func12, Try.ntmps12
  go_wp2
  refine wp_loop_rounds 3 ?_
  rw [rounds_succ]
  go_wp2
  go_quiet (fail)
  go_wp2
  rw [rounds_succ]
  go_wp2
  go_quiet (fail)
  go_wp2
  rw [rounds_succ]
  go_wp2
  go_ret
  exact ⟨rfl, ⟨_, rfl⟩⟩

set_option maxHeartbeats 1000000 in
theorem readers4 (w : World) : Calls Try.prog 4 #[] w fun e w' => e = .returned (.bool true) ∧ Grown w w' := by
  go_enter Try.func4, Try.ntmps4
  go_wp2_with fail
  refine (readers11 w).mono ?_
  rintro e w1 ⟨rfl, hw⟩
  subst hw
  dsimp only
  go_wp2_with fail
  refine (ok12 w.heap.size _ (by simp) (by simp)).mono ?_
  rintro e w1 ⟨rfl, d, hw⟩
  subst hw
  dsimp only
  go_wp2
  refine wp_loop_rounds 3 ?_
  rw [rounds_succ]
  go_wp2
  rw [rounds_succ]
  go_wp2
  rw [rounds_succ]
  go_wp2_with fail
  have hg : Grown w ((((w.alloc (.cells #[.string ⟨#[99, 101, 114, 116, 116, 111, 111, 108]⟩, .string ⟨#[108, 111, 97, 100, 101, 114]⟩] 37)).drewN d).setCell ⟨w.heap.size, 0, none⟩ (.string ⟨#[]⟩)).setCell ⟨w.heap.size, 1, none⟩ (.string ⟨#[]⟩)) :=
    Grown.setCell (Grown.setCell (show Grown w ((w.alloc _).drewN d) from (Grown.refl w).alloc _ _) (Nat.le_refl _) _) (Nat.le_refl _) _
  generalize ((((w.alloc (.cells #[.string ⟨#[99, 101, 114, 116, 116, 111, 111, 108]⟩, .string ⟨#[108, 111, 97, 100, 101, 114]⟩] 37)).drewN d).setCell ⟨w.heap.size, 0, none⟩ (.string ⟨#[]⟩)).setCell ⟨w.heap.size, 1, none⟩ (.string ⟨#[]⟩)) = W at hg ⊢
  refine (readers11 W).mono ?_
  rintro e w1 ⟨rfl, hw⟩
  subst hw
  dsimp only
  go_wp2_with fail
  refine (ok12 W.heap.size _ (by simp) (by simp)).mono ?_
  rintro e w1 ⟨rfl, d2, hw⟩
  subst hw
  dsimp only
  go_wp2
  go_ret
  exact ⟨rfl, show Grown w ((W.alloc _).drewN d2) from hg.alloc _ _⟩
end Go.Proofs.Qxb6616154a
