import Derived.Test.Qxb6616109aRows
import Derived.WalkKit
import Derived.ProofKit
import Derived.OpenShut
import Derived.WalkSpells
import Derived.WalkLawsBesides
import Derived.Deep.OwnRows
import Derived.Deep.Slices
import Derived.Deep.LoopGhost
import Derived.Lib.SmallJoins
namespace Go.Proofs.Qxb6616109a
open Go.RowKit Go.Deep Go.Joins

theorem info3 : (Try.prog.info? 3).map (fun i => (i.zero, i.size, i.bytes)) = some (some (.int .i64 0), 1, 8) := by kernel_rfl
theorem info25 : (Try.prog.info? 25).map (fun i => (i.zero, i.size, i.bytes)) = some (some (.slice none 0 0), 1, 24) := by kernel_rfl

/-- The call came back with a bool; where it is true, p. -/
def GaveOk (e : Ending) (p : Prop) : Prop := ∃ b, e = .returned (.bool b) ∧ (b = true → p)
theorem gaveNo (p : Prop) : GaveOk (.returned (.bool false)) p := ⟨false, rfl, fun h => by cases h⟩
theorem gaveYes {p : Prop} (h : p) : GaveOk (.returned (.bool true)) p := ⟨true, rfl, fun _ => h⟩

/-- The slice at A has n cells of the values f. -/
def Cells (w : World) (A : Option Addr) (n : Nat) (f : Nat → Value) : Prop :=
  ∀ i, i < n → ∃ b off, A = some ⟨b, off, none⟩ ∧ w.cell? ⟨b, off + i, none⟩ = some (f i)

theorem Cells.lit {w : World} {A : Option Addr} {n : Nat} {f : Nat → Value} (h : Cells w A n f) (hn : 0 < n) :
    ∃ b off, A = some ⟨b, off, none⟩ ∧ b < w.heap.size ∧ ∀ i, i < n → w.cell? ⟨b, off + i, none⟩ = some (f i) := by
  obtain ⟨b, off, rfl, h0⟩ := h 0 hn
  refine ⟨b, off, rfl, World.block_lt_of_cell? w _ h0, fun i hi => ?_⟩
  obtain ⟨b', off', e, hc⟩ := h i hi
  simp only [Option.some.injEq, Addr.mk.injEq] at e
  obtain ⟨rfl, rfl, _⟩ := e
  exact hc

theorem Cells.below {w w' : World} {B : Nat} {A : Option Addr} {n : Nat} {f : Nat → Value} (h : Cells w A n f) (hb : Below B w w') (hB : w.heap.size ≤ B) : Cells w' A n f := by
  intro i hi
  obtain ⟨b, off, rfl, hc⟩ := h i hi
  exact ⟨b, off, rfl, (hb.cell (by have := World.block_lt_of_cell? w _ hc; simp at this ⊢; omega)).trans hc⟩

theorem fill_step {c : Array Value} {k : Nat} {f : Nat → Value} {v : Value} (hv : v = f k) (hk : k < c.size) (h : ∀ j, j < k → c[j]? = some (f j)) : ∀ j, j < k + 1 → (c.setIfInBounds k v)[j]? = some (f j) := by
  subst hv
  intro j hj
  rw [Array.getElem?_setIfInBounds]
  by_cases e : k = j
  · subst e; simp [hk]
  · rw [if_neg e]; exact h j (by omega)

theorem fill_done {c : Array Value} {len : Nat} {zs : List Int} {k : IntKind} (hl : zs.length = len) (hs : c.size = len) (h : ∀ j, j < len → c[j]? = some (.int k (zs.getD j 0))) : c = (zs.map (Value.int k)).toArray := by
  apply Array.ext_getElem?
  intro j
  by_cases hj : j < len
  · rw [h j hj]; simp [List.getElem?_eq_getElem (show j < zs.length by omega)]
  · rw [Array.getElem?_eq_none (by omega), Array.getElem?_eq_none (by simp; omega)]

/-- A table of n rows of integers that the call owns: the table in block g, each row in a block of its own from lo on. Of the rows the first k are laid, the others nil. -/
structure Jag (w : World) (lo g n k : Nat) (vs : Nat → Value) (zs : Nat → List Int) : Prop where
  outer : w.rowIs g 25 n (fun r => if r < k then vs r else .slice none 0 0)
  row : ∀ r, r < k → w.ownsRow lo 3 1 (vs r) (zs r).length ((zs r).map (Value.int .i64))
  ap : ∀ r s b, r < k → s < k → (vs r).ownBlock = some b → (vs s).ownBlock = some b → r = s

theorem Jag.rowAt {w : World} {lo g n : Nat} {vs : Nat → Value} {zs : Nat → List Int} (h : Jag w lo g n n vs zs) {r : Nat} (hr : r < n) : w.cell? ⟨g, r, none⟩ = some (vs r) := by
  have := h.outer.cell hr
  simpa [hr] using this

/-- An owned row of integers as the walk reads it. -/
theorem own_cells {w : World} {lo : Nat} {v : Value} {zs : List Int} (h : w.ownsRow lo 3 1 v zs.length (zs.map (Value.int .i64))) :
    ∃ A c, v = .slice A zs.length c ∧ Cells w A zs.length (fun i => .int .i64 (zs.getD i 0)) := by
  rcases ownsRow_forms h with ⟨rfl, h0⟩ | ⟨g, cap, rfl⟩
  · exact ⟨none, 0, by rw [h0], fun i hi => by omega⟩
  · refine ⟨_, cap, rfl, fun i hi => ⟨g, 0, rfl, ?_⟩⟩
    rw [Nat.zero_add, World.ownsRow.cellAt h i (by omega)]
    simp [List.getElem?_eq_getElem hi]

/-- Blocks of w (all below its size) but for those of S are as they were. -/
structure Kept (S : Nat → Prop) (w w' : World) : Prop where
  os : w'.os = w.os
  tape : w'.tape = w.tape
  output : w'.output = w.output
  size : w.heap.size ≤ w'.heap.size
  block : ∀ k, k < w.heap.size → ¬ S k → w'.heap[k]? = w.heap[k]?

end Go.Proofs.Qxb6616109a
