import Derived.Test.Qxb6616109aBase
import Derived.Below
import Derived.Deep.DrawnRows
namespace Go.Proofs.Qxb6616109a
open Go.RowKit Go.Deep Go.Joins
attribute [local go_sem ↓] Go.wp_at_zero Go.wp_at_succ

/-- A row of holders: none, or one transaction that holds exclusively. -/
def HRow (w : World) (A : Option Addr) (l : Nat) (ho : Option Nat) : Prop :=
  (l = 0 ∧ ho = none) ∨ (∃ b t, l = 1 ∧ A = some ⟨b, 0, none⟩ ∧ ho = some t ∧ w.cell? ⟨b, 0, none⟩ = some (.int .i64 (t : Nat)) ∧ w.cell? ⟨b, 1, none⟩ = some (.int .u8 2))

theorem HRow.below {w w' : World} {n₀ : Nat} {A : Option Addr} {l : Nat} {ho : Option Nat} (h : HRow w A l ho) (hb : Below n₀ w w') (hn : ∀ b, A = some ⟨b, 0, none⟩ → b < n₀) : HRow w' A l ho := by
  rcases h with h | ⟨b, t, h1, h2, h3, h4, h5⟩
  · exact .inl h
  · exact .inr ⟨b, t, h1, h2, h3, (hb.cell (by exact hn b h2)).trans h4, (hb.cell (by exact hn b h2)).trans h5⟩

/-- Below the heap's size as it is. -/
theorem HRow.later {w w' : World} {A : Option Addr} {l : Nat} {ho : Option Nat} (h : HRow w A l ho) (hb : Below w.heap.size w w') : HRow w' A l ho := by
  rcases h with h | ⟨b, t, h1, h2, h3, h4, h5⟩
  · exact .inl h
  · exact .inr ⟨b, t, h1, h2, h3, (hb.cell (World.block_lt_of_cell? w _ h4)).trans h4, (hb.cell (World.block_lt_of_cell? w _ h5)).trans h5⟩

theorem is35 (t s : Nat) (m : Int) (c : Nat) (w : World) (hc : w.cell? ⟨c, 0, none⟩ = some (.int .i64 s)) :
    Calls Try.prog 35 #[.agg #[.int .i64 t, .int .u8 m], .pointer (some ⟨c, 0, none⟩)] w fun e w' => e = .returned (.bool (decide (t = s))) ∧ Below w.heap.size w w' := by
  have hlt := World.block_lt_of_cell? w _ hc
  have e : ((t : Int) == (s : Int)) = decide (t = s) := by
    by_cases h : t = s
    · subst h; simp
    · simp [h]; omega
  go_enter Try.func35, Try.ntmps35
  go_wp2
  go_ret
  exact ⟨by rw [← e]; rfl, (Below.refl _ _).alloc (Nat.le_refl _) _⟩

theorem is64 (t s : Nat) (m : Int) (c : Nat) (w : World) (hc : w.cell? ⟨c, 0, none⟩ = some (.int .i64 s)) :
    Calls Try.prog 64 #[.agg #[.int .i64 t, .int .u8 m], .pointer (some ⟨c, 0, none⟩)] w fun e w' => e = .returned (.bool (decide (t = s))) ∧ Below w.heap.size w w' := by
  have hlt := World.block_lt_of_cell? w _ hc
  have e : ((t : Int) == (s : Int)) = decide (t = s) := by
    by_cases h : t = s
    · subst h; simp
    · simp [h]; omega
  go_enter Try.func64, Try.ntmps64
  go_wp2
  go_ret
  exact ⟨by rw [← e]; rfl, (Below.refl _ _).alloc (Nat.le_refl _) _⟩

theorem is21 (t s : Nat) (m : Int) (c : Nat) (w : World) (hc : w.cell? ⟨c, 0, none⟩ = some (.int .i64 s)) :
    Calls Try.prog 21 #[.agg #[.int .i64 t, .int .u8 m], .pointer (some ⟨c, 0, none⟩)] w fun e w' => e = .returned (.bool (decide (t = s))) ∧ Below w.heap.size w w' := by
  have hlt := World.block_lt_of_cell? w _ hc
  have e : ((t : Int) == (s : Int)) = decide (t = s) := by
    by_cases h : t = s
    · subst h; simp
    · simp [h]; omega
  go_enter Try.func21, Try.ntmps21
  go_wp2
  go_ret
  exact ⟨by rw [← e]; rfl, (Below.refl _ _).alloc (Nat.le_refl _) _⟩

theorem conflict63 (m : Int) (w : World) : Calls Try.prog 63 #[.int .u8 2, .int .u8 m] w fun e w' => e = .returned (.bool true) ∧ w' = w := by
  go_enter Try.func63, Try.ntmps63
  go_wp2
  go_ret
  exact ⟨rfl, rfl⟩

end Go.Proofs.Qxb6616109a
