import Derived.Test.Qxb6616109aDlE
import Derived.Test.Qxb6616109aDlG
import Derived.Deep.QuietTactic
import Derived.BigQuiet
namespace Go.Proofs.Qxb6616109a
open Go.RowKit Go.Deep Go.Joins
attribute [local go_sem ↓] Go.wp_at_zero Go.wp_at_succ

theorem info60 : (Try.prog.info? 60).map (fun i => (i.zero, i.size, i.bytes)) = some (some (.agg #[.int .i64 0, .int .u8 0]), 2, 16) := by kernel_rfl

/-- The cells of a row of holders. -/
def hc : Option Nat → List Value
  | none => []
  | some t => [.int .i64 t, .int .u8 2]
/-- The cells of a row of numbers. -/
def ic (l : List Nat) : List Value := l.map fun n : Nat => .int .i64 (n : Int)

variable {w w1 : World} {B : Bk} {N nT nG : Nat} {lim : Nat → Nat} {V : Nat → Nat → Value} {X : Nat → Nat → List Value} {md : Nat → Int}

theorem turn_app {k i : Nat} {v : Value} {xs : List Value} {o : Obj} {w3 : World} (h1 : w3.ownsRow N (ety k) (esz k) v (xs.length / esz k) xs) (h2 : ((w.alloc o).drew).grownBy w3 (V k i).ownBlock)
    (h3 : ∀ b, v.ownBlock = some b → (V k i).ownBlock = some b ∨ ((w.alloc o).drew).heap.size ≤ b) : Turn w w3 N V k i v xs := by
  have e1 : ((w.alloc o).drew).heap.size = w.heap.size + 1 := by simp
  have e2 : ∀ b, b < w.heap.size → ((w.alloc o).drew).heap[b]? = w.heap[b]? := fun b hb => Below.heap_alloc w _ b hb
  refine ⟨h2.os, h2.tape, h2.output, by have := h2.size; omega, ?_, h1, ?_⟩
  · intro b hb hne
    rw [h2.block b (by omega) (fun h => hne h.symm)]
    exact e2 b hb
  · intro b hb
    rcases h3 b hb with h | h
    · exact .inl h
    · right; omega

/-- A row of holders as it is read. -/
theorem Lk.hrow (h : Lk w B N nT nG lim V X md) (hl : lim 0 = nG) {g : Nat} (hg : g < nG) {ho : Option Nat} (hx : X 0 g = hc ho) :
    ∃ A l c, V 0 g = .slice A l c ∧ HRow w A l ho ∧ l = (X 0 g).length / 2 := by
  have hr := h.fam.row 0 g (by omega)
  rw [hx] at hr ⊢
  simp only [ety, esz, if_true] at hr
  cases ho with
  | none =>
    rcases ownsRow_forms hr with ⟨e, _⟩ | ⟨g0, cap0, e⟩
    · exact ⟨none, 0, 0, e, .inl ⟨rfl, rfl⟩, rfl⟩
    · exact ⟨some ⟨g0, 0, none⟩, 0, cap0, e, .inl ⟨rfl, rfl⟩, rfl⟩
  | some t =>
    obtain ⟨g0, cap0, e⟩ := ownsRow_form hr (by simp [hc])
    have e2 : (hc (some t)).length / 2 = 1 := by simp [hc]
    rw [e] at hr
    rw [e2] at e hr ⊢
    refine ⟨some ⟨g0, 0, none⟩, 1, cap0, e, .inr ⟨g0, t, rfl, rfl, rfl, ?_, ?_⟩, rfl⟩
    · have := World.ownsRow.cellAt hr 0 (by simp)
      simpa [hc] using this
    · have := World.ownsRow.cellAt hr 1 (by simp)
      simpa [hc] using this

theorem Lk.tab (h : Lk w B N nT nG lim V X md) {g : Nat} (hg : g < nG) {A : Option Addr} {l c : Nat} (hv : V 0 g = .slice A l c) : Tab w B.p B.ho B.qu nG g A l c :=
  ⟨h.still.c0, h.still.c1, by rw [h.hos.cell hg, hv], h.still.qus g hg⟩

set_option maxHeartbeats 1000000 in
theorem drop30 (t : Nat) (h : Lk w B N nT nG lim V X md) (ht : t < nT) : Calls Try.prog 30 #[.pointer (some ⟨B.p, 0, none⟩), .int .i64 t] w fun e w' => e = .returned (.tuple #[]) ∧ Below w.heap.size w w' := by
  have c7 := h.still.c7
  have ca := h.still.was t ht
  have hlt1 := World.block_lt_of_cell? w _ c7
  have hlt2 := World.block_lt_of_cell? w _ ca
  have hB : Below w.heap.size w (w.alloc (.cells #[.int .i64 (t : Int)] 3)) := (Below.refl _ _).alloc (Nat.le_refl _) _
  have HB : Hid (Below w.heap.size w (w.alloc (.cells #[.int .i64 (t : Int)] 3))) := hB
  clear h hB
  go_enter Try.func30, Try.ntmps30
  go_wp2_with (fail)
  go_quiet (fail)
  go_wp2
  refine bodyPost_ret (results_none rfl _ _ _) rfl ?_
  exact ⟨rfl, HB.out.trans ⟨rfl, rfl, rfl, Nat.le_refl _, fun _ _ => rfl⟩⟩
end Go.Proofs.Qxb6616109a
