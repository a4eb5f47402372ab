import Derived.Test.Qxb6616109aDlM
namespace Go.Proofs.Qxb6616109a
open Go.RowKit Go.Deep Go.Joins
set_option linter.unusedSimpArgs false
set_option linter.unusedVariables false

variable {w w1 : World} {B : Bk} {N nT nG : Nat} {lim : Nat → Nat} {V : Nat → Nat → Value} {X : Nat → Nat → List Value} {md : Nat → Int}

theorem below_drewN0 {n : Nat} {a b : World} (h : Below n a b) (d : Nat) : Below n a (b.drewN d) := ⟨h.os, h.tape, h.output, h.size, h.block⟩

set_option maxHeartbeats 1000000 in
theorem unqueue22 (t : Nat) (w : World) (h : Lk w B N nT nG lim V X md) (ht : t < nT) (hnT : nT ≤ 4096) :
    Calls Try.prog 22 #[.pointer (some ⟨B.p, 0, none⟩), .int .i64 t] w fun e w' => e = .returned (.int .i64 (-1)) ∧ Below w.heap.size w w' := by
  have hB1 : Below w.heap.size w (w.alloc (.cells #[.int .i64 (t : Int)] 3)) := (Below.refl _ _).alloc (Nat.le_refl _) _
  have hb0 : (w.alloc (.cells #[.int .i64 (t : Int)] 3)).cell? ⟨w.heap.size, 0, none⟩ = some (.int .i64 t) := cell_newest w _ 3 0
  have hsz : (w.alloc (.cells #[.int .i64 (t : Int)] 3)).heap.size = w.heap.size + 1 := by simp
  obtain ⟨w1, hw1⟩ : ∃ w1, w.alloc (.cells #[.int .i64 (t : Int)] 3) = w1 := ⟨_, rfl⟩
  rw [hw1] at hB1 hb0 hsz
  have HW1 : Hid (w.alloc (.cells #[.int .i64 (t : Int)] 3) = w1) := hw1
  have k1 := drop30 t (h.later hB1) ht
  have HH : Hid (Lk w B N nT nG lim V X md) := h
  have H1 : Hid (Below w.heap.size w w1) := hB1
  clear h hw1 hB1
  go_enter Try.func22, Try.ntmps22
  go_wp2_with fail
  rw [HW1.out]
  refine k1.mono ?_
  rintro e w2 ⟨rfl, hB2⟩
  have hB : Below w.heap.size w w2 := H1.out.trans (hB2.mono (by omega))
  have h2 := HH.out.later hB
  have c4 := h2.still.c4
  have cq := h2.still.qds t ht
  have d0 := (hB2.cell (World.block_lt_of_cell? w1 _ hb0)).trans hb0
  clear h2 k1 hB2 hb0
  have HB : Hid (Below w.heap.size w w2) := hB
  clear hB
  dsimp only
  go_wp2_with fail
  go_quiet (fail)
  go_wp2
  go_ret
  exact ⟨rfl, below_drewN0 HB.out _⟩

set_option maxHeartbeats 1000000 in
theorem serveWhole24 (w : World) (h : Lk w B N nT nG lim V X md) : Calls Try.prog 24 #[.pointer (some ⟨B.p, 0, none⟩)] w fun e w' => e = .returned (.tuple #[]) ∧ Below w.heap.size w w' := by
  have c10 := h.still.c10
  have hlt := World.block_lt_of_cell? w _ c10
  clear h
  go_enter Try.func24, Try.ntmps24
  go_wp2
  refine bodyPost_ret (results_none rfl _ _ _) rfl ?_
  exact ⟨rfl, (Below.refl _ _).alloc (Nat.le_refl _) _⟩

theorem look0 (b cl : Nat) (g : Nat) (w : World) (hm : w.heap[b]? = some (.map #[] cl)) :
    (Instr.lookup 46 (.map (some b)) (.int .i64 g) false).run Try.prog w = .ok (.slice none 0 0) w := by
  have hk : ∀ d : Nat, (Instr.checkKey true (d + 1) 3 (.int .i64 g)).run Try.prog w = .ok () w := fun d => by
    simp [Instr.checkKey, run_underlying Try.underlying3, go_sem]
  have hg : (getObj b).run Try.prog w = .ok (.map #[] cl) w := by simp [getObj, Sem.run, hm]
  have hf : Instr.findNow (TypeDesc.int IntKind.i64) (Value.int IntKind.i64 (g : Int)) [] 0 = some none := rfl
  simp [Instr.lookup, run_underlying Try.underlying46, go_sem, hg, hk 9999, Instr.findKey, Try.zeroValue25, hf]

set_option maxRecDepth 100000 in
set_option maxHeartbeats 1000000 in
theorem serve23 (g : Nat) (w : World) (h : Lk w B N nT nG lim V X md) (hg : g < nG) (hnG : nG ≤ 65536) : Calls Try.prog 23 #[.pointer (some ⟨B.p, 0, none⟩), .int .i64 g] w fun e w' => e = .returned (.tuple #[]) ∧ w' = w := by
  have c8 := h.still.c8
  have c1 := h.still.c1
  have cq := h.still.qus g hg
  obtain ⟨cl, hm⟩ := h.still.mp
  have hlk := look0 B.mp cl g w hm
  clear h hm
  go_enter Try.func23, Try.ntmps23
  go_wp2
  refine wp_loop_once ?_
  go_wp2
  go_end0
  exact ⟨rfl, rfl⟩
end Go.Proofs.Qxb6616109a
