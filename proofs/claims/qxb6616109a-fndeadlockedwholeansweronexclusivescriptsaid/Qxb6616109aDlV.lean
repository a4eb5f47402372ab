import Derived.Test.Qxb6616109aDlU
namespace Go.Proofs.Qxb6616109a
open Go.RowKit Go.Deep Go.Joins
set_option linter.unusedSimpArgs false
set_option linter.unusedVariables false

def jc (l : List Int) : List Value := l.map fun z => .int .i64 z
theorem jc_len (l : List Int) : (jc l).length = l.length := by simp [jc]
theorem jc_app (l m : List Int) : jc (l ++ m) = jc l ++ jc m := by simp [jc]

def put1 {α : Type} (f : Nat → α) (i : Nat) (v : α) : Nat → α := fun j => if j = i then v else f j
theorem put1_same {α : Type} (f : Nat → α) (i : Nat) (v : α) : put1 f i v i = v := by simp [put1]
theorem put1_other {α : Type} (f : Nat → α) {i j : Nat} (v : α) (h : j ≠ i) : put1 f i v j = f j := if_neg h

/-- The search's four rows. -/
structure Sx (N p : Nat) (w : World) (V : Nat → Value) (X : Nat → List Value) : Prop where
  low : p < N
  size : N ≤ w.heap.size
  pc : ∀ i, i < 4 → w.cell? ⟨p, 11 + i, none⟩ = some (V i) ∧ w.frozen? ⟨p, 11 + i, none⟩ = false
  row : ∀ i, i < 4 → w.ownsRow N 3 1 (V i) (X i).length (X i)
  ap : ∀ i j b, i < 4 → j < 4 → (V i).ownBlock = some b → (V j).ownBlock = some b → i = j

/-- What the search leaves of the rest. -/
structure Sfr (N p : Nat) (w w' : World) : Prop where
  os : w'.os = w.os
  tape : w'.tape = w.tape
  output : w'.output = w.output
  size : w.heap.size ≤ w'.heap.size
  block : ∀ b, b < N → b ≠ p → w'.heap[b]? = w.heap[b]?
  pcell : ∀ i, i < 11 → w'.cell? ⟨p, i, none⟩ = w.cell? ⟨p, i, none⟩

theorem Sfr.refl (N p : Nat) (w : World) : Sfr N p w w := ⟨rfl, rfl, rfl, Nat.le_refl _, fun _ _ _ => rfl, fun _ _ => rfl⟩
theorem Sfr.trans {N p : Nat} {a b c : World} (h : Sfr N p a b) (k : Sfr N p b c) : Sfr N p a c :=
  ⟨k.os.trans h.os, k.tape.trans h.tape, k.output.trans h.output, Nat.le_trans h.size k.size, fun i h1 h2 => (k.block i h1 h2).trans (h.block i h1 h2), fun i hi => (k.pcell i hi).trans (h.pcell i hi)⟩

/-- A row of the search is turned. -/
structure Tn (N : Nat) (w w1 : World) (v0 v : Value) (xs : List Value) : Prop where
  os : w1.os = w.os
  tape : w1.tape = w.tape
  output : w1.output = w.output
  size : w.heap.size ≤ w1.heap.size
  rest : ∀ b, b < w.heap.size → v0.ownBlock ≠ some b → w1.heap[b]? = w.heap[b]?
  own : w1.ownsRow N 3 1 v xs.length xs
  fresh : ∀ b, v.ownBlock = some b → v0.ownBlock = some b ∨ w.heap.size ≤ b

variable {N p : Nat} {w w1 : World} {V : Nat → Value} {X : Nat → List Value}

theorem Sx.blk (h : Sx N p w V X) {i b : Nat} (hi : i < 4) (hb : (V i).ownBlock = some b) : N ≤ b ∧ b < w.heap.size := (h.row i hi).lt b hb

theorem Tn.low (h : Sx N p w V X) {i : Nat} (hi : i < 4) {v : Value} {xs : List Value} (ht : Tn N w w1 (V i) v xs) : ∀ b, b < N → w1.heap[b]? = w.heap[b]? := by
  intro b hb
  have := h.size
  exact ht.rest b (by omega) (fun e => by have := (h.blk hi e).1; omega)

theorem sx_put (h : Sx N p w V X) {i : Nat} (hi : i < 4) {v : Value} {xs : List Value} (ht : Tn N w w1 (V i) v xs) :
    Sx N p (w1.setCell ⟨p, 11 + i, none⟩ v) (put1 V i v) (put1 X i xs) ∧ Sfr N p w (w1.setCell ⟨p, 11 + i, none⟩ v) := by
  have low := ht.low h hi
  have hlow := h.low
  have hsz := h.size
  have hsz1 := ht.size
  have hset : ∀ b, b ≠ p → (w1.setCell ⟨p, 11 + i, none⟩ v).heap[b]? = w1.heap[b]? := fun b hb => Below.heap_setCell _ _ _ _ (by simpa using hb)
  have hc1 : ∀ j, w1.cell? ⟨p, j, none⟩ = w.cell? ⟨p, j, none⟩ := fun j => World.cell?_of_block (low p hlow)
  have hf1 : ∀ j, w1.frozen? ⟨p, j, none⟩ = w.frozen? ⟨p, j, none⟩ := fun j => World.frozen?_of_block (low p hlow)
  refine ⟨⟨hlow, by rw [nblk_setCell]; omega, ?_, ?_, ?_⟩, ⟨ht.os, ht.tape, ht.output, by rw [nblk_setCell]; exact hsz1, fun b h1 h2 => (hset b h2).trans (low b h1), ?_⟩⟩
  · intro j hj
    refine ⟨?_, by rw [World.frozen?_setCell, hf1]; exact (h.pc j hj).2⟩
    by_cases e : j = i
    · subst e
      rw [put1_same]
      exact World.cell?_setCell_same _ _ _ ((hc1 _).trans (h.pc j hj).1)
    · rw [put1_other _ _ e, World.cell?_setCell_other _ _ _ _ (by simp only [ne_eq, Addr.mk.injEq, true_and, and_true]; omega), hc1]
      exact (h.pc j hj).1
  · intro j hj
    by_cases e : j = i
    · subst e
      rw [put1_same, put1_same]
      refine ownsRow_of_block ht.own (fun b hb => hset b ?_)
      have := (ht.own.lt b hb).1
      omega
    · rw [put1_other _ _ e, put1_other _ _ e]
      refine ownsRow_of_block (h.row j hj) (fun b hb => ?_)
      have hlt := h.blk hj hb
      rw [hset b (by omega)]
      exact ht.rest b hlt.2 (fun e2 => e (h.ap j i b hj hi hb e2))
  · intro j k b hj hk hbj hbk
    by_cases e : j = i
    · by_cases e2 : k = i
      · omega
      · rw [e, put1_same] at hbj
        rw [put1_other _ _ e2] at hbk
        rcases ht.fresh b hbj with h1 | h1
        · rw [e]; exact h.ap i k b hi hk h1 hbk
        · have := (h.blk hk hbk).2; omega
    · by_cases e2 : k = i
      · rw [put1_other _ _ e] at hbj
        rw [e2, put1_same] at hbk
        rcases ht.fresh b hbk with h1 | h1
        · rw [e2]; exact h.ap j i b hj hi hbj h1
        · have := (h.blk hj hbj).2; omega
      · rw [put1_other _ _ e] at hbj
        rw [put1_other _ _ e2] at hbk
        exact h.ap j k b hj hk hbj hbk
  · intro j hj
    rw [World.cell?_setCell_other _ _ _ _ (by simp only [ne_eq, Addr.mk.injEq, true_and, and_true]; omega)]
    exact hc1 j

/-- A row turned in its own block. -/
theorem sx_turn (h : Sx N p w V X) {i : Nat} (hi : i < 4) {xs : List Value} (ht : Tn N w w1 (V i) (V i) xs) : Sx N p w1 V (put1 X i xs) ∧ Sfr N p w w1 := by
  have low := ht.low h hi
  have hlow := h.low
  have hsz := h.size
  have hsz1 := ht.size
  have hc1 : ∀ j, w1.cell? ⟨p, j, none⟩ = w.cell? ⟨p, j, none⟩ := fun j => World.cell?_of_block (low p hlow)
  have hf1 : ∀ j, w1.frozen? ⟨p, j, none⟩ = w.frozen? ⟨p, j, none⟩ := fun j => World.frozen?_of_block (low p hlow)
  refine ⟨⟨hlow, by omega, fun j hj => ⟨by rw [hc1]; exact (h.pc j hj).1, by rw [hf1]; exact (h.pc j hj).2⟩, ?_, h.ap⟩, ⟨ht.os, ht.tape, ht.output, hsz1, fun b h1 _ => low b h1, fun j _ => hc1 j⟩⟩
  intro j hj
  by_cases e : j = i
  · subst e
    rw [put1_same]
    exact ht.own
  · rw [put1_other _ _ e]
    refine ownsRow_of_block (h.row j hj) (fun b hb => ?_)
    exact ht.rest b (h.blk hj hb).2 (fun e2 => e (h.ap j i b hj hi hb e2))

/-- Only new blocks. -/
theorem Sx.later (h : Sx N p w V X) (hB : Below w.heap.size w w1) : Sx N p w1 V X := by
  have hlow := h.low
  have hsz := h.size
  have hc1 : ∀ j, w1.cell? ⟨p, j, none⟩ = w.cell? ⟨p, j, none⟩ := fun j => World.cell?_of_block (hB.block p (by omega))
  have hf1 : ∀ j, w1.frozen? ⟨p, j, none⟩ = w.frozen? ⟨p, j, none⟩ := fun j => World.frozen?_of_block (hB.block p (by omega))
  exact ⟨hlow, Nat.le_trans hsz hB.size, fun j hj => ⟨by rw [hc1]; exact (h.pc j hj).1, by rw [hf1]; exact (h.pc j hj).2⟩, fun j hj => ownsRow_of_block (h.row j hj) (fun b hb => hB.block b (h.blk hj hb).2), h.ap⟩
theorem Sfr.of_below {n : Nat} (hB : Below n w w1) (h1 : N ≤ n) (h2 : p < n) : Sfr N p w w1 := ⟨hB.os, hB.tape, hB.output, hB.size, fun b hb _ => hB.block b (by omega), fun i _ => World.cell?_of_block (hB.block p h2)⟩

/-- A row of numbers as it is read. -/
theorem Sx.at (h : Sx N p w V X) {i : Nat} (hi : i < 4) {j : Nat} {z : Value} (hj : (X i)[j]? = some z) : ∃ g cap, V i = .slice (some ⟨g, 0, none⟩) (X i).length cap ∧ N ≤ g ∧ g < w.heap.size ∧ w.cell? ⟨g, j, none⟩ = some z ∧ w.frozen? ⟨g, j, none⟩ = false := by
  have hr := h.row i hi
  have hlt : j < (X i).length := by
    rcases Nat.lt_or_ge j (X i).length with h1 | h1
    · exact h1
    · rw [List.getElem?_eq_none h1] at hj; cases hj
  obtain ⟨g, cap, e⟩ := ownsRow_form hr (by omega)
  have hb := h.blk hi (b := g) (by rw [e]; rfl)
  refine ⟨g, cap, e, hb.1, hb.2, ?_, ?_⟩
  · rw [e] at hr
    rw [World.ownsRow.cellAt hr j (by omega)]
    exact hj
  · rcases hr.2 with ⟨e2, _⟩ | ⟨g', cap', cur, e2, _, hg, _⟩
    · rw [e] at e2; cases e2
    · rw [e] at e2
      simp only [Value.slice.injEq, Option.some.injEq, Addr.mk.injEq] at e2
      obtain ⟨⟨rfl, _⟩, _⟩ := e2
      unfold World.frozen?; simp only [hg]; simp

/-- A store into a row. -/
theorem Sx.store (h : Sx N p w V X) {i : Nat} (hi : i < 4) {j : Nat} (hj : j < (X i).length) {g cap : Nat} (hv : V i = .slice (some ⟨g, 0, none⟩) (X i).length cap) (z : Value) :
    Sx N p (w.setCell ⟨g, j, none⟩ z) V (put1 X i ((X i).set j z)) ∧ Sfr N p w (w.setCell ⟨g, j, none⟩ z) := by
  refine sx_turn h hi ⟨rfl, rfl, rfl, by rw [nblk_setCell]; exact Nat.le_refl _, ?_, ?_, fun b hb => .inl hb⟩
  · intro b hb hne
    refine Below.heap_setCell _ _ _ _ ?_
    intro e
    apply hne
    rw [hv]
    simp [Value.ownBlock]
    exact e.symm
  · have hr := h.row i hi
    refine ⟨by simp, ?_⟩
    rcases hr.2 with ⟨e, h0⟩ | ⟨g', cap', cur, e, h1, h2, h3, h4, h5, h6⟩
    · omega
    · right
      rw [hv] at e
      simp only [Value.slice.injEq, Option.some.injEq, Addr.mk.injEq] at e
      obtain ⟨⟨rfl, _⟩, _, rfl⟩ := e
      refine ⟨g, cap, _, by rw [hv]; simp, h1, heap_setCell_same _ g j _ _ _ h2, by simpa using h3, h4, by simpa using h5, ?_⟩
      simp only [Array.toList_setIfInBounds, List.length_set, List.take_set, h6]
end Go.Proofs.Qxb6616109a
