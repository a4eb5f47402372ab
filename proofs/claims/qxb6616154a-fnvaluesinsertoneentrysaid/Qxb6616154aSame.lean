import Derived.Test.Qxb6616154aRows
import Derived.WalkKit
import Derived.ProofKit
import Derived.OpenShut
import Derived.WalkSpells
import Derived.WalkLawsBesides
import Derived.BigQuiet
import Derived.Deep.QuietTactic
import Derived.Deep.RegionHeld3
import Derived.Deep.DrawnRows
import Derived.Deep.OwnRows
import Derived.Deep.Slices
import Derived.Lib.SmallJoins
namespace Go.Proofs.Qxb6616154a
open Go.RowKit

/-- An entry of three plain fields and no kind. -/
def ent (a : ByteArray) (z : Int) (b : ByteArray) : Value := .agg #[.string a, .int .i64 z, .string b, .pointer none]

set_option maxHeartbeats 1000000 in
theorem type14 (a : ByteArray) (z : Int) (b : ByteArray) (w : World) : Calls Try.prog 14 #[.agg #[.string a, .int .i64 z, .string b, .pointer none]] w fun e w' => e = .returned (.int .u8 2) ∧ w' = w.alloc (.cells #[.string a, .int .i64 z, .string b, .pointer none] 32) := by
  go_enter Try.func14, Try.ntmps14
  go_wp2
  go_ret
  exact ⟨rfl, rfl⟩
/-- Two blocks that hold the same entry. -/
structure Same2 (w : World) (g1 g2 : Nat) (a : ByteArray) (z : Int) (b : ByteArray) : Prop where
  lt1 : g1 < w.heap.size
  lt2 : g2 < w.heap.size
  p0 : w.cell? ⟨g1, 0, none⟩ = some (.string a)
  p1 : w.cell? ⟨g1, 1, none⟩ = some (.int .i64 z)
  p2 : w.cell? ⟨g1, 2, none⟩ = some (.string b)
  p3 : w.cell? ⟨g1, 3, none⟩ = some (.pointer none)
  q0 : w.cell? ⟨g2, 0, none⟩ = some (.string a)
  q1 : w.cell? ⟨g2, 1, none⟩ = some (.int .i64 z)
  q2 : w.cell? ⟨g2, 2, none⟩ = some (.string b)
  q3 : w.cell? ⟨g2, 3, none⟩ = some (.pointer none)

attribute [local go_sem ↓] Go.wp_at_zero Go.wp_at_succ
set_option maxHeartbeats 1000000 in
theorem same10 (a : ByteArray) (z : Int) (b : ByteArray) (w : World) : Calls Try.prog 10 #[.agg #[.string a, .int .i64 z, .string b, .pointer none], .agg #[.string a, .int .i64 z, .string b, .pointer none]] w fun e w' => e = .returned (.bool true) ∧ Below w.heap.size w w' := by
  go_enter Try.func10, Try.ntmps10
  go_wp2
  have hb : Below w.heap.size w ((w.alloc (.cells #[.string a, .int .i64 z, .string b, .pointer none] 32)).alloc (.cells #[.string a, .int .i64 z, .string b, .pointer none] 32)) := ((Below.refl _ _).alloc (Nat.le_refl _) _).alloc (by simp) _
  have hS : Same2 ((w.alloc (.cells #[.string a, .int .i64 z, .string b, .pointer none] 32)).alloc (.cells #[.string a, .int .i64 z, .string b, .pointer none] 32)) w.heap.size (w.heap.size + 1) a z b := by
    refine ⟨by simp; omega, by simp, ?_, ?_, ?_, ?_, ?_, ?_, ?_, ?_⟩ <;> simp
  generalize ((w.alloc (.cells #[.string a, .int .i64 z, .string b, .pointer none] 32)).alloc (.cells #[.string a, .int .i64 z, .string b, .pointer none] 32)) = W at hb hS ⊢
  generalize w.heap.size + 1 = g2 at hS ⊢
  have HB : Hid (Below w.heap.size w W) := hb
  have hS' := hS
  obtain ⟨hp, hq, p0, p1, p2, p3, q0, q1, q2, q3⟩ := hS
  have HS : Hid (Same2 W w.heap.size g2 a z b) := hS'
  generalize hg : w.heap.size = g1 at *
  clear hb hS'
  go_region_held3 (fun w' => w'.cell? ⟨g1, 0, none⟩ = some (.string a) ∧ w'.cell? ⟨g1, 1, none⟩ = some (.int .i64 z) ∧ w'.cell? ⟨g1, 2, none⟩ = some (.string b) ∧ w'.cell? ⟨g1, 3, none⟩ = some (.pointer none) ∧
      w'.cell? ⟨g2, 0, none⟩ = some (.string a) ∧ w'.cell? ⟨g2, 1, none⟩ = some (.int .i64 z) ∧ w'.cell? ⟨g2, 2, none⟩ = some (.string b) ∧ w'.cell? ⟨g2, 3, none⟩ = some (.pointer none)) (go_keep)
    (first | (go_at_call 14; refine (type14 a z b _).mono ?_; rintro e w' ⟨rfl, rfl⟩))
  go_wp2
  go_ret
  have h1 : Below g1 w ((W.alloc (.cells #[.string a, .int .i64 z, .string b, .pointer none] 32)).alloc (.cells #[.string a, .int .i64 z, .string b, .pointer none] 32)) :=
    (HB.out.alloc (by omega) _).alloc (by rw [Go.Deep.nblk_alloc]; omega) _
  exact ⟨rfl, h1.os, h1.tape, h1.output, h1.size, fun k hk => h1.block k (by omega)⟩
end Go.Proofs.Qxb6616154a
