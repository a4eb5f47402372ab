import Derived.Test.Qxb6616109aDlR
namespace Go.Proofs.Qxb6616109a
open Go.RowKit Go.Deep Go.Joins
set_option linter.unusedSimpArgs false
set_option linter.unusedVariables false

def lim0 (nT nG : Nat) : Nat → Nat := fun k => if k = 0 then nG else if k ≤ 3 then nT else 0
def V0 : Nat → Nat → Value := fun _ _ => .slice none 0 0
def X0 : Nat → Nat → List Value := fun k _ => if k = 4 then [.slice none 0 0] else []

/-- What NewLocks has laid. -/
structure Laid6 (w : World) (nT nG p b0 b1 b2 b3 b4 b5 b6 b7 : Nat) : Prop where
  lt : b0 < p ∧ b1 < p ∧ b2 < p ∧ b3 < p ∧ b4 < p ∧ b5 < p ∧ b6 < p ∧ b7 < p ∧ p < w.heap.size
  ne : b0 ≠ b1 ∧ b0 ≠ b2 ∧ b0 ≠ b3 ∧ b0 ≠ b4 ∧ b0 ≠ b6 ∧ b0 ≠ b7 ∧ b1 ≠ b2 ∧ b1 ≠ b3 ∧ b2 ≠ b3 ∧ b2 ≠ b4 ∧ b2 ≠ b6 ∧ b2 ≠ b7 ∧ b3 ≠ b4 ∧ b3 ≠ b6 ∧ b3 ≠ b7
  p : w.heap[p]? = some (.cells (tab6 nT nG b0 b1 b2 b3 b4 b5 b6 b7) 51)
  h0 : w.heap[b0]? = some (obj6 nT nG 0)
  h1 : w.heap[b1]? = some (obj6 nT nG 1)
  h2 : w.heap[b2]? = some (obj6 nT nG 2)
  h3 : w.heap[b3]? = some (obj6 nT nG 3)
  h4 : w.rowIs b4 3 nT (fun _ => .int .i64 (-1))
  h6 : w.heap[b6]? = some (obj6 nT nG 6)
  h7 : w.heap[b7]? = some (obj6 nT nG 7)

theorem made_at (z : Value) (n i : Nat) (h : i < n) : (madeCells #[z] n)[i]? = some z := by simp [madeCells, h, Nat.mod_one]
theorem made2_at (z y : Value) (n i : Nat) (h : i < n) : (madeCells #[z, y] n)[i]? = some (if i % 2 = 0 then z else y) := by
  simp [madeCells, h]
  by_cases e : i % 2 = 0
  · simp [e]
  · have : i % 2 = 1 := by omega
    simp [this]

theorem lk_new {w w2 : World} {nT nG p b0 b1 b2 b3 b4 b5 b6 b7 : Nat} (h : Laid6 w nT nG p b0 b1 b2 b3 b4 b5 b6 b7) (hB : Below w.heap.size w w2) :
    Lk w2 ⟨p, b0, b1, b2, b3, b4, b6, b7⟩ w2.heap.size nT nG (lim0 nT nG) V0 X0 (fun _ => 0) := by
  have hlt := h.lt
  have hne := h.ne
  have hs := hB.size
  have kb : ∀ {b : Nat} {o : Obj}, b < w.heap.size → w.heap[b]? = some o → w2.heap[b]? = some o := fun hb h => (hB.block _ hb).trans h
  have kp : ∀ i v, (tab6 nT nG b0 b1 b2 b3 b4 b5 b6 b7)[i]? = some v → w2.cell? ⟨p, i, none⟩ = some v := fun i v hv => by rw [Joins.cell_of_block (kb (by omega) h.p)]; exact hv
  refine ⟨?_, Nat.le_refl _, ⟨kp 0 _ rfl, kp 1 _ rfl, kp 2 _ rfl, kp 3 _ rfl, kp 4 _ rfl, kp 5 _ rfl, kp 7 _ rfl, kp 8 _ rfl, kp 10 _ rfl, ?_, ?_, ?_, ?_, ?_⟩, ?_, ?_, ?_, ?_⟩
  · refine ⟨?_, ?_, ?_, ?_, ?_, ?_, ?_, ?_⟩ <;> dsimp only <;> omega
  · intro i hi
    have : i = 0 ∨ i = 1 ∨ i = 2 ∨ i = 3 := by omega
    refine ⟨?_, by unfold World.frozen?; simp only [kb (b := p) (by omega) h.p]; simp⟩
    rcases this with rfl | rfl | rfl | rfl
    · exact kp 11 _ rfl
    · exact kp 12 _ rfl
    · exact kp 13 _ rfl
    · exact kp 14 _ rfl
  · intro g hg
    rw [Joins.cell_of_block (kb (by omega) h.h1)]
    exact made_at _ _ _ hg
  · intro t ht
    exact (World.cell?_of_block (hB.block _ (by dsimp only; omega))).trans (h.h4.cell ht)
  · intro t ht
    rw [Joins.cell_of_block (kb (by omega) h.h6)]
    exact made_at _ _ _ ht
  · exact ⟨0, kb (b := b7) (by omega) h.h7⟩
  · exact ⟨_, kb (b := b0) (by omega) h.h0, size_madeCells _ _, fun i hi => made_at _ _ _ (by simpa [size_madeCells] using hi)⟩
  · exact ⟨_, kb (b := b2) (by omega) h.h2, size_madeCells _ _, fun i hi => made_at _ _ _ (by simpa [size_madeCells] using hi)⟩
  · refine ⟨_, kb (b := b3) (by omega) h.h3, size_madeCells _ _, fun i hi => ?_⟩
    rw [made2_at _ _ _ _ (by simpa [size_madeCells] using hi)]
    unfold rfAt
    rfl
  · refine ⟨?_, ?_, fun _ => rfl⟩
    · intro k i hi
      by_cases e : k = 4
      · subst e; simp [lim0] at hi
      · simp only [X0, if_neg e, V0, List.length_nil, Nat.zero_div]
        exact World.ownsRow_nil _ _ _ _
    · intro k i k' i' b _ _ hb
      simp [V0, Value.ownBlock] at hb

structure Q6 (w0 w : World) (nT b4 j : Nat) : Prop where
  os : w.os = w0.os
  tape : w.tape = w0.tape
  output : w.output = w0.output
  size : w.heap.size = w0.heap.size
  block : ∀ b, b ≠ b4 → w.heap[b]? = w0.heap[b]?
  row : w.rowIs b4 3 nT (fun i => .int .i64 (if i < j then -1 else 0))

set_option maxHeartbeats 2000000 in
set_option maxRecDepth 100000 in
theorem new6 (nT nG : Nat) (w : World) (hnT : nT ≤ 4096) (hnG : nG ≤ 65536) : Calls Try.prog 6 #[.int .i64 nT, .int .i64 nG] w fun e w' => ∃ B : Bk, e = .returned (.pointer (some ⟨B.p, 0, none⟩)) ∧ Below w.heap.size w w' ∧ B.Ok w'.heap.size ∧ (w.heap.size ≤ B.ho ∧ w.heap.size ≤ B.hd ∧ w.heap.size ≤ B.rf ∧ w.heap.size ≤ B.p) ∧
    ∀ w2, Below w'.heap.size w' w2 → Lk w2 B w2.heap.size nT nG (lim0 nT nG) V0 X0 (fun _ => 0) := by
  go_enter Try.func6, Try.ntmps6
  go_wp2_with fail
  refine region6 (by kernel_rfl) hnT hnG (fun _ _ _ _ _ h => h) ?_
  intro b0 b1 b2 b3 b4 b5 b6 b7 w1 hI u7 u8 u9 u10 u11 u12 u13 u14 u15 u16 u17 u18 u19 u20 u21 u22 u23
  obtain ⟨w2, hw2⟩ : ∃ w2, w1.alloc (.cells (tab6 nT nG b0 b1 b2 b3 b4 b5 b6 b7) 51) = w2 := ⟨_, rfl⟩
  obtain ⟨p, hp⟩ : ∃ p, w1.heap.size = p := ⟨_, rfl⟩
  have hB2 : Below w.heap.size w w2 := by rw [← hw2]; exact hI.below.alloc hI.below.size _
  have hsz : w2.heap.size = p + 1 := by rw [← hw2, ← hp]; simp
  have hpp : w2.heap[p]? = some (.cells (tab6 nT nG b0 b1 b2 b3 b4 b5 b6 b7) 51) := by rw [← hw2, ← hp]; exact blk_alloc_new _ _
  have hold : ∀ j b, j < 8 → (if j = 0 then some b0 else if j = 1 then some b1 else if j = 2 then some b2 else if j = 3 then some b3 else if j = 4 then some b4 else if j = 5 then some b5 else if j = 6 then some b6 else some b7) = some b → w.heap.size ≤ b ∧ b < p ∧ w2.heap[b]? = some (obj6 nT nG j) := by
    intro j b hj hb
    obtain ⟨h1, h2, h3⟩ := hI.lie j b hj hb
    exact ⟨h1, by omega, by rw [← hw2, Below.heap_alloc _ _ _ h2]; exact h3⟩
  have o0 := hold 0 b0 (by decide) rfl
  have o1 := hold 1 b1 (by decide) rfl
  have o2 := hold 2 b2 (by decide) rfl
  have o3 := hold 3 b3 (by decide) rfl
  have o4 := hold 4 b4 (by decide) rfl
  have o5 := hold 5 b5 (by decide) rfl
  have o6 := hold 6 b6 (by decide) rfl
  have o7 := hold 7 b7 (by decide) rfl
  have hap : ∀ j j' b, j < 8 → j' < 8 → _ := hI.ap
  have n01 : b0 ≠ b1 := fun e => by have := hap 0 1 b0 (by decide) (by decide) rfl (by simp [e]); omega
  have n02 : b0 ≠ b2 := fun e => by have := hap 0 2 b0 (by decide) (by decide) rfl (by simp [e]); omega
  have n03 : b0 ≠ b3 := fun e => by have := hap 0 3 b0 (by decide) (by decide) rfl (by simp [e]); omega
  have n04 : b0 ≠ b4 := fun e => by have := hap 0 4 b0 (by decide) (by decide) rfl (by simp [e]); omega
  have n06 : b0 ≠ b6 := fun e => by have := hap 0 6 b0 (by decide) (by decide) rfl (by simp [e]); omega
  have n07 : b0 ≠ b7 := fun e => by have := hap 0 7 b0 (by decide) (by decide) rfl (by simp [e]); omega
  have n12 : b1 ≠ b2 := fun e => by have := hap 1 2 b1 (by decide) (by decide) rfl (by simp [e]); omega
  have n13 : b1 ≠ b3 := fun e => by have := hap 1 3 b1 (by decide) (by decide) rfl (by simp [e]); omega
  have n14 : b1 ≠ b4 := fun e => by have := hap 1 4 b1 (by decide) (by decide) rfl (by simp [e]); omega
  have n23 : b2 ≠ b3 := fun e => by have := hap 2 3 b2 (by decide) (by decide) rfl (by simp [e]); omega
  have n24 : b2 ≠ b4 := fun e => by have := hap 2 4 b2 (by decide) (by decide) rfl (by simp [e]); omega
  have n26 : b2 ≠ b6 := fun e => by have := hap 2 6 b2 (by decide) (by decide) rfl (by simp [e]); omega
  have n27 : b2 ≠ b7 := fun e => by have := hap 2 7 b2 (by decide) (by decide) rfl (by simp [e]); omega
  have n34 : b3 ≠ b4 := fun e => by have := hap 3 4 b3 (by decide) (by decide) rfl (by simp [e]); omega
  have n36 : b3 ≠ b6 := fun e => by have := hap 3 6 b3 (by decide) (by decide) rfl (by simp [e]); omega
  have n37 : b3 ≠ b7 := fun e => by have := hap 3 7 b3 (by decide) (by decide) rfl (by simp [e]); omega
  have n46 : b4 ≠ b6 := fun e => by have := hap 4 6 b4 (by decide) (by decide) rfl (by simp [e]); omega
  have n47 : b4 ≠ b7 := fun e => by have := hap 4 7 b4 (by decide) (by decide) rfl (by simp [e]); omega
  have hfin : ∀ w3, Q6 w2 w3 nT b4 nT → Laid6 w3 nT nG p b0 b1 b2 b3 b4 b5 b6 b7 := by
    intro w3 h3
    have kk : ∀ {b : Nat} {o : Obj}, b ≠ b4 → w2.heap[b]? = some o → w3.heap[b]? = some o := fun hb h => (h3.block _ hb).trans h
    refine ⟨by have := h3.size; omega, by omega, kk (by omega) hpp, kk n04 o0.2.2, kk n14 o1.2.2, kk n24 o2.2.2, kk n34 o3.2.2, h3.row.congr (fun i hi => by simp [hi]), kk (fun e => n46 e.symm) o6.2.2, kk (fun e => n47 e.symm) o7.2.2⟩
  have HFIN : Hid (∀ w3, Q6 w2 w3 nT b4 nT → Laid6 w3 nT nG p b0 b1 b2 b3 b4 b5 b6 b7) := hfin
  have hst : Q6 w2 w2 nT b4 0 := ⟨rfl, rfl, rfl, rfl, fun _ _ => rfl, ⟨_, o4.2.2, size_madeCells _ _, fun i hi => by simpa using made_at (.int .i64 0) nT i (by simpa [size_madeCells] using hi)⟩⟩
  have HB2 : Hid (Below w.heap.size w w2) := hB2
  have c4 : w2.cell? ⟨p, 4, none⟩ = some (.slice (some ⟨b4, 0, none⟩) nT nT) := by rw [Joins.cell_of_block hpp]; rfl
  have hp4 : p ≠ b4 := by omega
  have HO : Hid (w.heap.size ≤ b0 ∧ w.heap.size ≤ b2 ∧ w.heap.size ≤ b3 ∧ w.heap.size ≤ b4 ∧ w.heap.size ≤ p) := ⟨o0.1, o2.1, o3.1, o4.1, by have := hI.below.size; omega⟩
  clear hold o0 o1 o2 o3 o4 o5 o6 o7 hap n01 n02 n03 n04 n06 n07 n12 n13 n14 n23 n24 n26 n27 n34 n36 n37 n46 n47 hfin hI hpp hB2
  rw [hw2, hp]
  clear hw2
  go_wp2_with fail
  go_loopw [29] (fun i wr => ∃ j, j ≤ nT ∧ i = .int .i64 (j : Nat) ∧ Q6 w2 wr nT b4 j) (fun i _ => nT - (intOf i).toNat)
  case atStart => exact ⟨0, by omega, rfl, hst⟩
  case round =>
    obtain ⟨j, hj, rfl, hq⟩ := hrel
    have d4 : wr.cell? ⟨p, 4, none⟩ = some (.slice (some ⟨b4, 0, none⟩) nT nT) := (World.cell?_of_block (hq.block p hp4)).trans c4
    clear hst c4
    by_cases hjl : j < nT
    · have c5 := hq.row.cell hjl
      have f5 := hq.row.frozen j
      have hq' : Q6 w2 (wr.setCell ⟨b4, j, none⟩ (.int .i64 (-1))) nT b4 (j + 1) := by
        refine ⟨hq.os, hq.tape, hq.output, by rw [nblk_setCell]; exact hq.size, fun b hb => by rw [Below.heap_setCell _ _ _ _ (by simpa using hb)]; exact hq.block b hb, ?_⟩
        refine (hq.row.set j _).congr fun i hi => ?_
        by_cases e : i = j
        · subst e; simp
        · simp only [e, if_false]
          by_cases e2 : i < j
          · rw [if_pos e2, if_pos (by omega)]
          · rw [if_neg e2, if_neg (by omega)]
      have HQ : Hid (Q6 w2 (wr.setCell ⟨b4, j, none⟩ (.int .i64 (-1))) nT b4 (j + 1)) := hq'
      clear hq hq'
      go_wp2
      go_roundw
      case rel => exact ⟨j + 1, by omega, by go_num, HQ.out⟩
      case measure => simp [intOf]; omega
    · obtain rfl : j = nT := by omega
      have HQ : Hid (Q6 w2 wr j b4 j) := hq
      clear hq
      go_wp2
      go_ret
      have hL := HFIN.out _ HQ.out
      have q := HQ.out
      refine ⟨⟨p, b0, b1, b2, b3, b4, b6, b7⟩, rfl, HB2.out.trans ⟨q.os, q.tape, q.output, by rw [q.size]; exact Nat.le_refl _, fun b hb => q.block b (by have := HO.out.2.2.2.1; omega)⟩, (lk_new hL (Below.refl _ _)).ok, ⟨HO.out.1, HO.out.2.1, HO.out.2.2.1, HO.out.2.2.2.2⟩, fun w2 hB => lk_new hL hB⟩
end Go.Proofs.Qxb6616109a
