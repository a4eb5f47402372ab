import Derived.Test.Qxb6616154aRows
import Derived.WalkKit
import Derived.ProofKit
import Derived.OpenShut
import Derived.WalkSpells
import Derived.WalkLawsBesides
import Derived.Deep.OwnRows
import Derived.Deep.Slices
import Derived.Deep.LoopGhost
import Derived.Lib.SmallJoins
import Derived.BigQuiet
import Derived.Deep.QuietTactic
import Derived.Deep.RegionHeld3
namespace Go.Proofs.Qxb6616154a
open Go.RowKit Go.Deep Go.Joins

theorem info32 : (Try.prog.info? 32).map (fun i => (i.zero, i.size, i.bytes)) = some (some (.agg #[.string ⟨#[]⟩, .int .i64 0, .string ⟨#[]⟩, .pointer none]), 4, 48) := by kernel_rfl

/-- The call came back with a bool; where it is true, p. -/
def GaveOk (e : Ending) (p : Prop) : Prop := ∃ b, e = .returned (.bool b) ∧ (b = true → p)
theorem gaveNo (p : Prop) : GaveOk (.returned (.bool false)) p := ⟨false, rfl, fun h => by cases h⟩
theorem gaveYes {p : Prop} (h : p) : GaveOk (.returned (.bool true)) p := ⟨true, rfl, fun _ => h⟩

theorem drewN_add (w : World) (a b : Nat) : (w.drewN a).drewN b = w.drewN (a + b) := by simp [World.drewN, Nat.add_assoc]

/-- The slice at A has n cells of the values f. -/
def Cells (w : World) (A : Option Addr) (n : Nat) (f : Nat → Value) : Prop :=
  ∀ i, i < n → ∃ b off, A = some ⟨b, off, none⟩ ∧ w.cell? ⟨b, off + i, none⟩ = some (f i)

theorem Cells.lit {w : World} {A : Option Addr} {n : Nat} {f : Nat → Value} (h : Cells w A n f) (hn : 0 < n) :
    ∃ b off, A = some ⟨b, off, none⟩ ∧ b < w.heap.size ∧ ∀ i, i < n → w.cell? ⟨b, off + i, none⟩ = some (f i) := by
  obtain ⟨b, off, rfl, h0⟩ := h 0 hn
  refine ⟨b, off, rfl, World.block_lt_of_cell? w _ h0, fun i hi => ?_⟩
  obtain ⟨b', off', e, hc⟩ := h i hi
  simp only [Option.some.injEq, Addr.mk.injEq] at e
  obtain ⟨rfl, rfl, _⟩ := e
  exact hc

theorem Cells.below {w w' : World} {B : Nat} {A : Option Addr} {n : Nat} {f : Nat → Value} (h : Cells w A n f) (hb : Below B w w') (hB : w.heap.size ≤ B) : Cells w' A n f := by
  intro i hi
  obtain ⟨b, off, rfl, hc⟩ := h i hi
  exact ⟨b, off, rfl, (hb.cell (by have := World.block_lt_of_cell? w _ hc; simp at this ⊢; omega)).trans hc⟩

/-- An entry: its name, its line, its value. -/
structure Ent where
  nm : ByteArray
  ln : Int
  vl : ByteArray

/-- An entry's four cells. -/
def encE (e : Ent) : List Value := [.string e.nm, .int .i64 e.ln, .string e.vl, .pointer none]
def cellsE (l : List Ent) : List Value := l.flatMap encE
theorem encE_length (e : Ent) : (encE e).length = 4 := rfl
theorem cellsE_length (l : List Ent) : (cellsE l).length = l.length * 4 := by
  induction l with
  | nil => rfl
  | cons a l ih => simp only [cellsE, List.flatMap_cons, List.length_append, encE_length, List.length_cons] at ih ⊢; omega
theorem cellsE_append (a b : List Ent) : cellsE (a ++ b) = cellsE a ++ cellsE b := by simp [cellsE]
theorem cellsE_at (l : List Ent) (i j : Nat) (hi : i < l.length) (hj : j < 4) : (cellsE l)[i * 4 + j]? = (encE l[i])[j]? := by
  induction l generalizing i with
  | nil => simp at hi
  | cons a l ih =>
    cases i with
    | zero =>
      show (encE a ++ cellsE l)[0 * 4 + j]? = _
      rw [List.getElem?_append_left (by rw [encE_length]; omega)]
      simp
    | succ i =>
      show (encE a ++ cellsE l)[(i + 1) * 4 + j]? = _
      rw [List.getElem?_append_right (by rw [encE_length]; omega), encE_length, show (i + 1) * 4 + j - 4 = i * 4 + j by omega, ih i (by simpa using hi)]
      rfl

/-- v is a slice of the call's own (blocks from lo on) that holds the entries l. -/
def OwnsE (w : World) (lo : Nat) (v : Value) (l : List Ent) : Prop := w.ownsRow lo 32 4 v l.length (cellsE l)

/-- The slice at A holds the entries l. -/
structure HasE (w : World) (A : Option Addr) (l : List Ent) : Prop where
  at_ : ∀ i (hi : i < l.length), ∃ b off, A = some ⟨b, off, none⟩ ∧ w.cell? ⟨b, off + i * 4, none⟩ = some (.string (l[i]'hi).nm) ∧ w.cell? ⟨b, off + i * 4 + 1, none⟩ = some (.int .i64 (l[i]'hi).ln) ∧
    w.cell? ⟨b, off + i * 4 + 2, none⟩ = some (.string (l[i]'hi).vl) ∧ w.cell? ⟨b, off + i * 4 + 3, none⟩ = some (.pointer none)

end Go.Proofs.Qxb6616154a
