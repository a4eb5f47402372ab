import Derived.Test.Qxb6616154aBytes
import Derived.Test.Qxb6616154aBuild
import Derived.Test.Qxb6616154aVals
import Derived.Test.Qxb6616154aSame
import Derived.Deep.RegionWith
namespace Go.Proofs.Qxb6616154a
open Go.RowKit Go.Deep Go.Joins

/-- An owned row of entries as the walk reads it. -/
theorem OwnsE.has {w : World} {lo : Nat} {v : Value} {l : List Ent} (h : OwnsE w lo v l) : ∃ A c, v = .slice A l.length c ∧ l.length ≤ c ∧ HasE w A l ∧ (l ≠ [] → A.isNone = false) ∧ (v = .slice none 0 0 → A.isNone = true) := by
  rcases h.2 with ⟨rfl, h0⟩ | ⟨g, cap, cur, rfl, _, _, h1, _⟩
  · refine ⟨none, 0, by rw [h0], by omega, ⟨fun i hi => by omega⟩, fun hne => absurd (List.eq_nil_of_length_eq_zero h0) hne, fun _ => rfl⟩
  · refine ⟨_, cap, rfl, h1, ⟨fun i hi => ⟨g, 0, rfl, ?_, ?_, ?_, ?_⟩⟩, fun _ => rfl, fun hbad => by cases hbad⟩
    · rw [Nat.zero_add, World.ownsRow.cellAt h (i * 4) (by omega)]
      have := cellsE_at l i 0 hi (by omega); rw [Nat.add_zero] at this; rw [this]; rfl
    · rw [Nat.zero_add, World.ownsRow.cellAt h (i * 4 + 1) (by omega), cellsE_at l i 1 hi (by omega)]; rfl
    · rw [Nat.zero_add, World.ownsRow.cellAt h (i * 4 + 2) (by omega), cellsE_at l i 2 hi (by omega)]; rfl
    · rw [Nat.zero_add, World.ownsRow.cellAt h (i * 4 + 3) (by omega), cellsE_at l i 3 hi (by omega)]; rfl

/-- The block that zzBuild lays. -/
theorem has_block {w : World} {g : Nat} {l : List Ent} (h : w.heap[g]? = some (.cells (cellsE l).toArray 32 (0, 0))) : HasE w (some ⟨g, 0, none⟩) l := by
  refine ⟨fun i hi => ⟨g, 0, rfl, ?_, ?_, ?_, ?_⟩⟩
  all_goals rw [Go.Joins.cell_of_block h]
  · have := cellsE_at l i 0 hi (by omega); rw [Nat.add_zero] at this; simpa [encE] using this
  · have := cellsE_at l i 1 hi (by omega); simpa [encE] using this
  · have := cellsE_at l i 2 hi (by omega); simpa [encE] using this
  · have := cellsE_at l i 3 hi (by omega); simpa [encE] using this

theorem HasE.take {w : World} {g : Nat} {l : List Ent} (h : HasE w (some ⟨g, 0, none⟩) l) (c : Nat) : HasE w (some ⟨g, 0, none⟩) (l.take c) := by
  refine ⟨fun i hi => ?_⟩
  have hi2 : i < l.length := by have := List.length_take_le' c l; omega
  obtain ⟨b, off, e, h0, h1, h2, h3⟩ := h.at_ i hi2
  exact ⟨b, off, e, by simpa using h0, by simpa using h1, by simpa using h2, h3⟩

theorem HasE.drop {w : World} {g : Nat} {l : List Ent} (h : HasE w (some ⟨g, 0, none⟩) l) (c : Nat) : HasE w (some ⟨g, c * 4, none⟩) (l.drop c) := by
  refine ⟨fun i hi => ?_⟩
  have hi2 : c + i < l.length := by rw [List.length_drop] at hi; omega
  obtain ⟨b, off, e, h0, h1, h2, h3⟩ := h.at_ (c + i) hi2
  simp only [Option.some.injEq, Addr.mk.injEq] at e
  obtain ⟨rfl, rfl, _⟩ := e
  rw [show 0 + (c + i) * 4 = c * 4 + i * 4 by omega] at h0 h1 h2 h3
  exact ⟨g, c * 4, rfl, by simpa using h0, by simpa using h1, by simpa using h2, h3⟩

theorem HasE.lit {w : World} {A : Option Addr} {l : List Ent} (h : HasE w A l) (hn : 0 < l.length) :
    ∃ b off, A = some ⟨b, off, none⟩ ∧ b < w.heap.size ∧ ∀ i (hi : i < l.length), w.cell? ⟨b, off + i * 4, none⟩ = some (.string (l[i]'hi).nm) ∧ w.cell? ⟨b, off + i * 4 + 1, none⟩ = some (.int .i64 (l[i]'hi).ln) ∧
    w.cell? ⟨b, off + i * 4 + 2, none⟩ = some (.string (l[i]'hi).vl) ∧ w.cell? ⟨b, off + i * 4 + 3, none⟩ = some (.pointer none) := by
  obtain ⟨b, off, rfl, h0, _⟩ := h.at_ 0 hn
  refine ⟨b, off, rfl, World.block_lt_of_cell? w _ h0, fun i hi => ?_⟩
  obtain ⟨b', off', e, hc⟩ := h.at_ i hi
  simp only [Option.some.injEq, Addr.mk.injEq] at e
  obtain ⟨rfl, rfl, _⟩ := e
  exact hc

def mkL (n : Nat) (nm vl : Nat → ByteArray) (ln : Nat → Int) : List Ent := (List.range n).map fun i => ⟨nm i, ln i, vl i⟩
theorem mkL_length (n : Nat) (nm vl : Nat → ByteArray) (ln : Nat → Int) : (mkL n nm vl ln).length = n := by simp [mkL]
theorem mkL_at (n : Nat) (nm vl : Nat → ByteArray) (ln : Nat → Int) (i : Nat) (h : i < (mkL n nm vl ln).length) : (mkL n nm vl ln)[i] = ⟨nm i, ln i, vl i⟩ := by simp [mkL]

/-- What the last loop reads. -/
structure Fin5 (w w4 : World) (s : ByteArray) (l1 l2 l3 : List Ent) (A1 A2 A3 : Option Addr) : Prop where
  below : Below w.heap.size w w4
  h1 : HasE w4 A1 l1
  h2 : HasE w4 A2 l2
  h3 : HasE w4 A3 l3

theorem Fin5.later {w w4 wr : World} {s : ByteArray} {l1 l2 l3 : List Ent} {A1 A2 A3 : Option Addr} (h : Fin5 w w4 s l1 l2 l3 A1 A2 A3) (hb : Below w4.heap.size w4 wr) : Fin5 w wr s l1 l2 l3 A1 A2 A3 :=
  ⟨h.below.trans (hb.mono h.below.size), h.h1.below hb (Nat.le_refl _), h.h2.below hb (Nat.le_refl _), h.h3.below hb (Nat.le_refl _)⟩

theorem vals_named {s : ByteArray} {l : List Ent} {k : Nat} (hk : k < (vals s l).length) : ((vals s l)[k].nm.toList == s.toList) = true := by
  have h := List.getElem_mem hk
  unfold vals at h
  exact (List.mem_filter.1 h).2

end Go.Proofs.Qxb6616154a
