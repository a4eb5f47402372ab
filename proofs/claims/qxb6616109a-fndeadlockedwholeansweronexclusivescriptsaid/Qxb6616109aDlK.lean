import Derived.Test.Qxb6616109aDlJ
namespace Go.Proofs.Qxb6616109a
open Go.RowKit Go.Deep Go.Joins
set_option linter.unusedSimpArgs false
set_option linter.unusedVariables false

variable {w w1 : World} {B : Bk} {N nT nG : Nat} {lim : Nat → Nat} {V : Nat → Nat → Value} {X : Nat → Nat → List Value} {md : Nat → Int}

theorem cut_own (A : Option Addr) (n c : Nat) : (Value.slice A 0 c).ownBlock = (Value.slice A n c).ownBlock := by cases A <;> rfl

theorem refuse_key {w2 w3 : World} {t g bx : Nat} {r : List Nat} {A : Option Addr} {c g' cap : Nat} {Ag : Option Addr} {cg : Nat} (h : Lk w2 B N nT nG lim V X md) (hl : lim 2 = nT) (ht : t < nT) (hv : V 2 t = .slice A r.length c)
    (hb0 : w2.cell? ⟨bx, 0, none⟩ = some (.slice Ag 1 cg)) (hb1 : w2.cell? ⟨bx, 1, none⟩ = some (.int .u8 2)) (hfar : (V 2 t).ownBlock ≠ some bx)
    (h1 : w3.ownsRow N 3 1 (.slice (some ⟨g', 0, none⟩) (0 + 1) cap) (0 + 1) ([] ++ [.int .i64 (g : Int)])) (h2 : (w2.drew).grownBy w3 (Value.slice A 0 c).ownBlock)
    (h3 : (Value.slice A 0 c).ownBlock = some g' ∨ (w2.drew).heap.size ≤ g') :
    w3.cell? ⟨bx, 1, none⟩ = some (.int .u8 2) ∧ w3.cell? ⟨B.rf, t * 2, none⟩ = some (.slice A r.length c) ∧ w3.frozen? ⟨B.rf, t * 2, none⟩ = false ∧ w3.cell? ⟨B.rf, t * 2 + 1, none⟩ = some (.int .u8 (md t)) ∧ w3.frozen? ⟨B.rf, t * 2 + 1, none⟩ = false ∧
      (∃ V' md', Lk ((w3.setCell ⟨B.rf, t * 2, none⟩ (.slice (some ⟨g', 0, none⟩) 1 cap)).setCell ⟨B.rf, t * 2 + 1, none⟩ (.int .u8 2)) B N nT nG lim V' (put2 X 2 t (ic [g])) md') ∧ Fr B N w2 ((w3.setCell ⟨B.rf, t * 2, none⟩ (.slice (some ⟨g', 0, none⟩) 1 cap)).setCell ⟨B.rf, t * 2 + 1, none⟩ (.int .u8 2)) := by
  rw [cut_own A r.length c, ← hv] at h2 h3
  have hT : Turn w2 w3 N V 2 t (.slice (some ⟨g', 0, none⟩) 1 cap) (ic [g]) := by
    refine ⟨h2.os, h2.tape, h2.output, h2.size, fun b hb hne => h2.block b hb (fun e => hne e.symm), by simpa [ety, esz, ic] using h1, ?_⟩
    intro b hb
    simp only [Value.ownBlock, Option.some.injEq] at hb
    subst hb
    exact h3
  have low := hT.low h (by omega)
  have k := lk_put2 h ht hl hT
  have k2 := lk_mode k.1 t 2
  have hok := h.ok
  have er := World.cell?_of_block (w := w2) (a := ⟨B.rf, t * 2, none⟩) (low _ hok.rf)
  have er1 := World.cell?_of_block (w := w2) (a := ⟨B.rf, t * 2 + 1, none⟩) (low _ hok.rf)
  refine ⟨(World.cell?_of_block (hT.rest bx (World.block_lt_of_cell? w2 _ hb1) hfar)).trans hb1, ?_, ?_, ?_, ?_, ⟨_, _, k2.1⟩, k.2.trans k2.2⟩
  · rw [er, h.rfs.cell (by omega)]; simp [rfAt, hv]
  · rw [World.frozen?_of_block (w := w2) (low _ hok.rf)]; exact h.rfs.frozen _
  · rw [er1, h.rfs.cell (by omega)]
    have e1 : (t * 2 + 1) % 2 = 1 := by omega
    have e2 : (t * 2 + 1) / 2 = t := by omega
    simp [rfAt, e1, e2]
  · rw [World.frozen?_of_block (w := w2) (low _ hok.rf)]; exact h.rfs.frozen _

set_option maxHeartbeats 4000000 in
set_option maxRecDepth 100000 in
theorem refuse32 (t g bg og c0 : Nat) (r : List Nat) (w : World) (h : Lk w B N nT nG lim V X md) (hl2 : lim 2 = nT) (ht : t < nT) (hx2 : X 2 t = ic r) (hnT : nT ≤ 4096)
    (hbg : w.cell? ⟨bg, og, none⟩ = some (.int .i64 g)) :
    Calls Try.prog 32 #[.pointer (some ⟨B.p, 0, none⟩), .int .i64 t, .agg #[.slice (some ⟨bg, og, none⟩) 1 c0, .int .u8 2]] w fun e w' => e = .returned (.tuple #[]) ∧ (∃ V' md', Lk w' B N nT nG lim V' (put2 X 2 t (ic [g])) md') ∧ Fr B N w w' := by
  obtain ⟨i3, hi3, hy0, hy1, hy2⟩ := info_parts info3
  have hB1 : Below w.heap.size w (w.alloc (.cells #[.slice (some ⟨bg, og, none⟩) 1 c0, .int .u8 2] 54)) := (Below.refl _ _).alloc (Nat.le_refl _) _
  have h2 := h.later hB1
  obtain ⟨A, c, hv, hr⟩ := h2.lrow (k := 2) (i := t) (l := r) (by decide) (by omega) hx2
  have hc3 := h2.still.c3
  have hb0 := cell_newest w #[.slice (some ⟨bg, og, none⟩) 1 c0, .int .u8 2] 54 0
  have hb1 := cell_newest w #[.slice (some ⟨bg, og, none⟩) 1 c0, .int .u8 2] 54 1
  have hbg2 := (hB1.cell (World.block_lt_of_cell? w _ hbg)).trans hbg
  have hfar : (V 2 t).ownBlock ≠ some w.heap.size := fun e => by have := (h.fam.blk (by omega) e).2; omega
  have hrf : (w.alloc (.cells #[.slice (some ⟨bg, og, none⟩) 1 c0, .int .u8 2] 54)).cell? ⟨B.rf, t * 2, none⟩ = some (.slice A r.length c) := by
    rw [h2.rfs.cell (by omega)]; simp [rfAt, hv]
  have HF1 : Hid (Fr B N w (w.alloc (.cells #[.slice (some ⟨bg, og, none⟩) 1 c0, .int .u8 2] 54))) := Fr.of_below hB1 h.size
  have hlo := h2.size
  have c3 := h.still.c3
  have hps : B.p < w.heap.size := World.block_lt_of_cell? w _ c3
  obtain ⟨w2, hw2⟩ : ∃ w2, w.alloc (.cells #[.slice (some ⟨bg, og, none⟩) 1 c0, .int .u8 2] 54) = w2 := ⟨_, rfl⟩
  rw [hw2] at h2 hr hc3 hb0 hb1 hbg2 hrf HF1 hlo
  have hown : (w2.drew).ownsRow N 3 1 (.slice A 0 c) 0 [] := ownsRow_cut hr
  have hnews : ∀ j u, ([.int .i64 (g : Int)] : List Value)[j]? = some u → (w2.drew).cell? (Addr.add ⟨bg, og, none⟩ j) = some u := by
    intro j u hj
    match j, hj with
    | 0, hj => simp at hj; subst hj; exact hbg2
    | j + 1, hj => simp at hj
  have hone : ∀ u ∈ ([.int .i64 (g : Int)] : List Value), u.oneCell' = true := by intro u hu; simp at hu; subst hu; rfl
  have key := fun g' cap w3 => refuse_key (w3 := w3) (g' := g') (cap := cap) (g := g) h2 hl2 ht hv hb0 hb1 hfar
  have HW2 : Hid (w.alloc (.cells #[.slice (some ⟨bg, og, none⟩) 1 c0, .int .u8 2] 54) = w2) := hw2
  have hb0' : w2.cell? ⟨w.heap.size, 0, none⟩ = some (.slice (some ⟨bg, og, none⟩) 1 c0) := hb0
  have hb1' : w2.cell? ⟨w.heap.size, 1, none⟩ = some (.int .u8 2) := hb1
  clear h h2 hx2 hl2 hr hv hfar hB1 hw2 hb0 hb1 hbg hbg2
  go_enter Try.func32, Try.ntmps32
  go_wp2_with fail
  rw [HW2.out]
  clear HW2 c3
  go_region_law (refine step_append_row rfl (.tmp 19) (.tmp 21) 25 rfl N 3 i3 (.int .i64 0) 1 8 Try.underlying25 hi3 hy0 hy1 hy2 rfl (by decide) (.slice A 0 c) 0 [] (by simp [Act.eval, Act.put]) hown ⟨bg, og, none⟩ c0 [.int .i64 (g : Int)] (by simp [Act.eval, Act.put]) rfl hnews hone (by unfold maxLen; omega) (by omega) hlo ?_; intro g' cap w3 ho1 hg1 hf1; obtain ⟨j1, j2, j3, j4, j5, j6, j7⟩ := key g' cap w3 ho1 hg1 hf1; clear ho1 hg1 hf1 key)
  all_goals go_wp2
  all_goals go_end0
  all_goals exact ⟨rfl, j6, HF1.out.trans j7⟩
end Go.Proofs.Qxb6616109a
