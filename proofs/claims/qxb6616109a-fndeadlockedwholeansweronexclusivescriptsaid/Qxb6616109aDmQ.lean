import Derived.Test.Qxb6616109aDmG
import Derived.Test.Qxb6616109aDmH
import Derived.Test.Qxb6616109aDmI
import Derived.Test.Qxb6616109aDmM
import Derived.Test.Qxb6616109aDmO
import Derived.Test.Qxb6616109aDmP
namespace Go.Proofs.Qxb6616109a
open Go.RowKit Go.Deep Go.Joins
set_option linter.unusedSimpArgs false
set_option linter.unusedVariables false

set_option maxRecDepth 100000 in
theorem dSplit5 : Try.f4.body.getD .skip = cutAt 5 (Try.f4.body.getD .skip) (dropAt 5 (Try.f4.body.getD .skip)) := by kernel_rfl
set_option maxRecDepth 100000 in
theorem dSplit6 : dropAt 5 (Try.f4.body.getD .skip) = cutAt 1 (dropAt 5 (Try.f4.body.getD .skip)) (dropAt 6 (Try.f4.body.getD .skip)) := by kernel_rfl
set_option maxRecDepth 100000 in
theorem dSplit7 : dropAt 6 (Try.f4.body.getD .skip) = cutAt 1 (dropAt 6 (Try.f4.body.getD .skip)) (dropAt 7 (Try.f4.body.getD .skip)) := by kernel_rfl
set_option maxRecDepth 100000 in
theorem dSplit13 : dropAt 7 (Try.f4.body.getD .skip) = cutAt 6 (dropAt 7 (Try.f4.body.getD .skip)) (dropAt 13 (Try.f4.body.getD .skip)) := by kernel_rfl
set_option maxRecDepth 100000 in
theorem dSplit14 : dropAt 13 (Try.f4.body.getD .skip) = cutAt 1 (dropAt 13 (Try.f4.body.getD .skip)) (dropAt 14 (Try.f4.body.getD .skip)) := by kernel_rfl
set_option maxRecDepth 100000 in
theorem dSplit18 : dropAt 14 (Try.f4.body.getD .skip) = cutAt 4 (dropAt 14 (Try.f4.body.getD .skip)) (dropAt 18 (Try.f4.body.getD .skip)) := by kernel_rfl

set_option maxHeartbeats 4000000 in
set_option maxRecDepth 100000 in
theorem walk4 (z0 z1 z7 v : Int) (A2 A3 A4 A5 : Option Addr) (n2 c2 n3 c3 n4 c4 n5 c5 : Nat) (tx gs att : Nat → Int) (rl : Nat → Bool) (w : World)
    (hz0 : In64 z0) (hz1 : In64 z1) (hz7 : In64 z7) (hv0 : 0 ≤ v) (hv1 : v < 256) (h2 : n2 ≤ maxLen) (h3 : n3 ≤ maxLen) (h4 : n4 ≤ maxLen) (h5 : n5 ≤ maxLen)
    (hc2 : Cells w A2 n2 (fun i => .int .i64 (tx i))) (hc3 : Cells w A3 n3 (fun i => .int .i64 (gs i))) (hc4 : Cells w A4 n4 (fun i => .bool (rl i))) (hc5 : Cells w A5 n5 (fun i => .int .i64 (att i))) (hw2 : ∀ i, i < n2 → In64 (tx i)) (hw3 : ∀ i, i < n3 → In64 (gs i)) :
    Calls Try.prog 4 #[.int .i64 z0, .int .i64 z1, .slice A2 n2 c2, .slice A3 n3 c3, .slice A4 n4 c4, .slice A5 n5 c5, .int .u8 v, .int .i64 z7] w fun e w' => e = .returned (.bool true) ∧ Below w.heap.size w w' := by
  go_enter Try.func4, Try.ntmps4
  show Code.wp Try.prog (Try.f4.body.getD .skip) _ _ _
  rw [dSplit5]
  refine dPhaseA _ w w z0 z1 z7 v A2 A3 A4 A5 n2 c2 n3 c3 n4 c4 n5 c5 h2 h3 h4 h5 hz0 hz1 hz7 (Below.refl _ _) ?_
  intros
  rename_i m0 e3 e4 m5 p0 p1 p2 p3 p4 p5 p6
  subst e3
  subst e4
  obtain ⟨nT, rfl⟩ : ∃ nT : Nat, z0 = nT := ⟨z0.toNat, by omega⟩
  obtain ⟨nG, rfl⟩ : ∃ nG : Nat, z1 = nG := ⟨z1.toNat, by omega⟩
  obtain ⟨a, rfl⟩ : ∃ a : Nat, z7 = a := ⟨z7.toNat, by omega⟩
  rw [dSplit6]
  refine dPhaseB _ w w nT nG a n4 v A2 A3 A4 A5 c2 c3 c4 n5 c5 att (Below.refl _ _) hc5 (by omega) (by omega) ?_
  intro at_ w1
  intros
  rename_i b1 a1 a2 hatt
  have hB1 : Below w.heap.size w w1 := b1
  rw [dSplit7]
  refine dPhaseC _ w w1 nT nG a n4 v A2 A3 A4 c2 c3 c4 n5 at_ tx gs rl hB1 (hc2.below hB1 (Nat.le_refl _)) (hc3.below hB1 (Nat.le_refl _)) (hc4.below hB1 (Nat.le_refl _)) (by omega) (by omega) (by omega) hw2 hw3 ?_
  intros
  rename_i hfac
  rw [dSplit13]
  refine dPhaseD _ w w1 nT nG a n4 v A2 A3 A4 c2 c3 c4 n5 at_ (by omega) (by omega) ?_
  intro B N hb ob wb w2 V X md
  intros
  rename_i hL
  rw [dSplit14]
  refine dPhaseE _ w w1 w2 B N hb ob wb nT nG a n4 v A2 A3 A4 c2 c3 c4 n5 at_ tx gs rl (by omega) (by omega) (by omega) (hc2.below hB1 (Nat.le_refl _)) (hc3.below hB1 (Nat.le_refl _)) (hc4.below hB1 (Nat.le_refl _)) hfac V X md _ _ _ hL ?_
  intro w3 V3 X3 md3 H rq L
  intros
  rename_i hL3
  rw [dSplit18]
  refine dPhaseF _ w w1 w3 B N hb ob wb nT nG a n4 v A2 A3 A4 c2 c3 c4 n5 at_ (by omega) (by omega) (by omega) V3 X3 md3 H rq L hL3 ?_
  intro w4 A c
  intros
  rename_i hB4 hown
  have hpN := hL3.lx.okh.p.1
  have hord := hL3.lx.ord
  have hNs := hL3.lx.lk.size
  exact dPhaseG w w1 w4 B N hb ob wb nT nG a n4 v A2 A3 A4 c2 c3 c4 n5 at_ (by omega) (by omega) (by omega) (by omega) (by omega) hv0 hv1 V3 X3 md3 H rq L (hL3.later hB4) att hB1 a2 hatt A c w3.heap.size (by omega) hown
end Go.Proofs.Qxb6616109a
