import Derived.Test.Qxb6616109aDmA
namespace Go.Proofs.Qxb6616109a
open Go.RowKit Go.Deep Go.Joins
set_option linter.unusedSimpArgs false
set_option linter.unusedVariables false

theorem split57 : Try.f57.body.getD .skip = cutAt 5 (Try.f57.body.getD .skip) (dropAt 5 (Try.f57.body.getD .skip)) := by kernel_rfl

theorem sx_start {p : Nat} {w : World} (hp : p < w.heap.size) (hcc : ∀ i, i < 4 → w.cell? ⟨p, 11 + i, none⟩ = some (.slice none 0 0) ∧ w.frozen? ⟨p, 11 + i, none⟩ = false) : Sx w.heap.size p w (fun _ => .slice none 0 0) (fun _ => []) :=
  ⟨hp, Nat.le_refl _, hcc, fun i _ => World.ownsRow_nil _ _ _ _, fun i j b _ _ hb => by simp [Value.ownBlock] at hb⟩

set_option maxHeartbeats 4000000 in
set_option maxRecDepth 100000 in
theorem path57 (p a nT : Nat) (w : World) (nx : Nat → List Nat) (hnT : nT ≤ 4096) (ha : a < nT) (hnx : ∀ s, s < nT → nx s = [] ∨ ∃ t, t < nT ∧ nx s = [t]) (hn : NextOk w.heap.size p nT w nx)
    (hp : p < w.heap.size) (hcc : ∀ i, i < 4 → w.cell? ⟨p, 11 + i, none⟩ = some (.slice none 0 0) ∧ w.frozen? ⟨p, 11 + i, none⟩ = false) :
    Calls Try.prog 57 #[.pointer (some ⟨p, 11, none⟩), .int .i64 (a : Nat), .int .i64 (a : Nat), .func (.func 58) #[.pointer (some ⟨p, 0, none⟩)] #[]] w (PathPost w.heap.size p w (srch nx a (nT + 1) [a])) := by
  have hS := sx_start hp hcc
  have c12 : w.cell? ⟨p, 12, none⟩ = some (.slice none 0 0) := (hcc 1 (by decide)).1
  have c13 : w.cell? ⟨p, 13, none⟩ = some (.slice none 0 0) := (hcc 2 (by decide)).1
  have f13 : w.frozen? ⟨p, 13, none⟩ = false := (hcc 2 (by decide)).2
  have hcut := sx_cut hS (i := 2) (by decide) rfl
  obtain ⟨w1, hw1⟩ : ∃ w1, w.setCell ⟨p, 11 + 2, none⟩ (.slice none 0 0) = w1 := ⟨_, rfl⟩
  rw [hw1] at hcut
  have HW1 : Hid (w.setCell ⟨p, 13, none⟩ (.slice none 0 0) = w1) := hw1
  have k75 := reach_yes a a [] [] w1 hcut.1 (by rw [put1_other _ _ (by decide)]; rfl) (by rw [put1_same]; rfl) (by simp) (by omega) (by simp) (by simp)
  have HF1 : Hid (Sfr w.heap.size p w w1) := hcut.2
  have HN : Hid (NextOk w.heap.size p nT w nx) := hn
  have HNX : Hid (∀ s, s < nT → nx s = [] ∨ ∃ t, t < nT ∧ nx s = [t]) := hnx
  clear hcut hw1 hn hnx hS hcc
  obtain ⟨N, hN⟩ : ∃ N, w.heap.size = N := ⟨_, rfl⟩
  rw [hN] at k75 HF1 HN hp ⊢
  go_enter Try.func57, Try.ntmps57
  show Code.wp Try.prog (Try.f57.body.getD .skip) _ _ _
  rw [split57]
  obtain ⟨C, hC⟩ : ∃ C, dropAt 5 (Try.f57.body.getD .skip) = C := ⟨_, rfl⟩
  rw [hC]
  have HC : Hid (dropAt 5 (Try.f57.body.getD .skip) = C) := hC
  clear hC
  conv => arg 2; simp only [Try.f57, Option.getD_some, cutAt, dropAt]
  go_wp2_with fail
  refine wp_loop_once ?_
  go_wp2_with fail
  rw [HW1.out]
  refine k75.mono ?_
  rintro e w2 ⟨rfl, ⟨V2, hS2⟩, hF2⟩
  obtain ⟨X2, hX2⟩ : ∃ X2, put1 (put1 (put1 (fun _ => ([] : List Value)) 2 []) 0 (jc ((wide [] a).set a (a : Int)))) 2 (jc ([] ++ [(a : Int)])) = X2 := ⟨_, rfl⟩
  rw [hX2] at hS2
  have x0 : X2 0 = jc ((wide [] a).set a (a : Int)) := by rw [← hX2, put1_other _ _ (by decide), put1_same]
  have x1 : X2 1 = [] := by rw [← hX2, put1_other _ _ (by decide), put1_other _ _ (by decide), put1_other _ _ (by decide)]
  have x2 : X2 2 = jc [(a : Int)] := by rw [← hX2, put1_same]; rfl
  obtain ⟨A1, c1, hv1⟩ := hS2.form (i := 1) (by decide)
  have hl1 : (X2 1).length = 0 := by rw [x1]; rfl
  obtain ⟨g3, cap3, w3, hrun, hT3⟩ := tn_app (i := 1) (by decide) hS2 a (by rw [x1]; simp)
  have hput := sx_put hS2 (i := 1) (by decide) hT3
  have low3 := hT3.low hS2 (by decide) p hS2.low
  have d12 : w2.cell? ⟨p, 12, none⟩ = some (V2 1) := (hS2.pc 1 (by decide)).1
  have e12 : w3.cell? ⟨p, 12, none⟩ = some (V2 1) := by rw [World.cell?_of_block (w := w2) low3]; exact d12
  have g12 : w3.frozen? ⟨p, 12, none⟩ = false := by rw [World.frozen?_of_block (w := w2) low3]; exact (hS2.pc 1 (by decide)).2
  rw [hv1] at d12 e12 hrun
  rw [hl1] at d12 e12 hrun hput
  have hsz2 := hS2.size
  have hps2 : p < w2.heap.size := by omega
  have HON : Hid (∃ V, On N p a nT w (w3.setCell ⟨p, 12, none⟩ (.slice (some ⟨g3, 0, none⟩) (0 + 1) cap3)) nx (srch nx a (nT + 1) [a]) [a] (nT + 1) a V (put1 X2 1 (X2 1 ++ [.int .i64 (a : Int)])) ((wide [] a).set a (a : Int)) [(a : Int)]) := by
    refine ⟨_, rfl, by simp, Way.start a nT ha, FP.start a nT ha, rfl, hput.1, ?_, ?_, rfl, (HF1.out.trans hF2).trans hput.2⟩
    · rw [put1_other _ _ (by decide)]; exact x0
    · rw [put1_other _ _ (by decide)]; exact x2
  have HX1 : Hid (X2 1 = []) := x1
  have HRUN : Hid ((Builtin.append_ #[25, 25] 25 #[.slice A1 0 c1, .slice (some ⟨w2.heap.size, 0, none⟩) 1 1]).run Try.prog (w2.alloc (.cells #[.int .i64 (a : Int)] 3)) = .ok (.slice (some ⟨g3, 0, none⟩) (0 + 1) cap3) w3) := hrun
  clear hX2 x0 x1 x2 hT3 hput low3 hv1 hl1 hS2 hF2 hrun k75
  dsimp only
  go_wp2_with (at_builtin; refine wpList_append_by rfl (.tmp 47) (.tmp 49) 25 25 rfl rfl rfl HRUN.out ?_)
  rw [← HC.out]
  obtain ⟨V3, h3⟩ := HON.out
  exact pathB a nT w _ nx _ hnT ha HNX.out HN.out _ _ [a] (nT + 1) a h3 (by rw [put1_same, HX1.out]; rfl) _ (fun e w' h => h)
end Go.Proofs.Qxb6616109a
