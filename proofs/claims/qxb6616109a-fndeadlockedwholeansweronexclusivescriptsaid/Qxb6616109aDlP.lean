import Derived.Test.Qxb6616109aDlO
import Derived.Orders
import Derived.Carry
namespace Go.Proofs.Qxb6616109a
open Go.RowKit Go.Deep Go.Joins
set_option linter.unusedSimpArgs false
set_option linter.unusedVariables false

/-- The operations of the region that makes the table. -/
def opsOf : Code → Array Oper
  | .seq (.region _ ops _) _ => ops
  | _ => #[]
noncomputable def ops6 : Array Oper := opsOf (dropAt 1 (Try.f6.body.getD .skip))
noncomputable def op6 (i : Nat) : Oper := (ops6[i]?).getD default
theorem ops6_1 : ops6[1]? = some (op6 1) := by kernel_rfl
theorem op6_1o : (op6 1).op = .makeSlice 43 (.tmp 7) (.tmp 7) := by kernel_rfl
theorem op6_1d : (op6 1).dst = some 8 := by kernel_rfl
theorem op6_1g : (op6 1).guard = none := by kernel_rfl
theorem ops6_3 : ops6[3]? = some (op6 3) := by kernel_rfl
theorem op6_3o : (op6 3).op = .makeSlice 43 (.tmp 9) (.tmp 9) := by kernel_rfl
theorem op6_3d : (op6 3).dst = some 10 := by kernel_rfl
theorem op6_3g : (op6 3).guard = none := by kernel_rfl
theorem ops6_5 : ops6[5]? = some (op6 5) := by kernel_rfl
theorem op6_5o : (op6 5).op = .makeSlice 32 (.tmp 11) (.tmp 11) := by kernel_rfl
theorem op6_5d : (op6 5).dst = some 12 := by kernel_rfl
theorem op6_5g : (op6 5).guard = none := by kernel_rfl
theorem ops6_7 : ops6[7]? = some (op6 7) := by kernel_rfl
theorem op6_7o : (op6 7).op = .makeSlice 44 (.tmp 13) (.tmp 13) := by kernel_rfl
theorem op6_7d : (op6 7).dst = some 14 := by kernel_rfl
theorem op6_7g : (op6 7).guard = none := by kernel_rfl
theorem ops6_9 : ops6[9]? = some (op6 9) := by kernel_rfl
theorem op6_9o : (op6 9).op = .makeSlice 25 (.tmp 15) (.tmp 15) := by kernel_rfl
theorem op6_9d : (op6 9).dst = some 16 := by kernel_rfl
theorem op6_9g : (op6 9).guard = none := by kernel_rfl
theorem ops6_11 : ops6[11]? = some (op6 11) := by kernel_rfl
theorem op6_11o : (op6 11).op = .makeSlice 44 (.tmp 17) (.tmp 17) := by kernel_rfl
theorem op6_11d : (op6 11).dst = some 18 := by kernel_rfl
theorem op6_11g : (op6 11).guard = none := by kernel_rfl
theorem ops6_13 : ops6[13]? = some (op6 13) := by kernel_rfl
theorem op6_13o : (op6 13).op = .makeSlice 45 (.tmp 19) (.tmp 19) := by kernel_rfl
theorem op6_13d : (op6 13).dst = some 20 := by kernel_rfl
theorem op6_13g : (op6 13).guard = none := by kernel_rfl
theorem ops6_14 : ops6[14]? = some (op6 14) := by kernel_rfl
theorem op6_14o : (op6 14).op = .makeMap 46 none := by kernel_rfl
theorem op6_14d : (op6 14).dst = some 21 := by kernel_rfl
theorem op6_14g : (op6 14).guard = none := by kernel_rfl

def allB (f : Bool → Bool) : Bool := f true && f false
theorem allB_out {f : Bool → Bool} (h : allB f = true) (b : Bool) : f b = true := by
  simp only [allB, Bool.and_eq_true] at h
  cases b
  · exact h.2
  · exact h.1
def lst (b0 b1 b2 b3 b4 b5 b6 b7 : Bool) : Array Bool := #[true, b0, true, b1, true, b2, true, b3, true, b4, true, b5, true, b6, b7, false, false, false]
def chk (b0 b1 b2 b3 b4 b5 b6 b7 : Bool) (i : Nat) : Bool :=
  (i == 1 && !b0) || (i == 3 && !b1) || (i == 5 && !b2) || (i == 7 && !b3) || (i == 9 && !b4) || (i == 11 && !b5) || (i == 13 && !b6) || (i == 14 && !b7) || (i == 15 && (b0 && b1 && b2 && b3 && b4 && b5 && b6 && b7))
theorem ready6 : (allB fun b0 => allB fun b1 => allB fun b2 => allB fun b3 => allB fun b4 => allB fun b5 => allB fun b6 => allB fun b7 => (Region.ready .any ops6 (lst b0 b1 b2 b3 b4 b5 b6 b7)).all (chk b0 b1 b2 b3 b4 b5 b6 b7) && !(Region.ready .any ops6 (lst b0 b1 b2 b3 b4 b5 b6 b7)).isEmpty) = true := by kernel_rfl

theorem wpOp_makes {P : Program} {ops : Array Oper} {Q : Exit → Act → World → Prop} {i : Nat} {o : Oper} {K : Act → World → Prop} {a : Act} {w w1 : World} {t : TypeId} {l : Operand} {x v : Value}
    (ho : ops[i]? = some o) (hg : o.guard = none) (hop : o.op = .makeSlice t l l) (hl : a.eval l = x) (hrun : (Instr.makeSlice t x x).run P w = .ok v w1) (hK : K (a.put o.dst v) w1) : wpOp P ops Q i K a w := by
  have hw : Region.wanted o (yielded ops a.tmps) = true := by simp [Region.wanted, hg]
  unfold wpOp
  rw [ho]
  show if Region.wanted o (yielded ops a.tmps) = true then _ else _
  rw [if_pos hw]
  left
  unfold Oper.wp
  simp [execOp, hop, hl, hrun, Result.andThen, Oper.upon_value]
  exact hK
theorem wpOp_makeMap {P : Program} {ops : Array Oper} {Q : Exit → Act → World → Prop} {i : Nat} {o : Oper} {K : Act → World → Prop} {a : Act} {w : World} {t : TypeId}
    (ho : ops[i]? = some o) (hg : o.guard = none) (hop : o.op = .makeMap t none) (hK : K (a.put o.dst (.map (some w.heap.size))) (w.alloc (.map #[] 0))) : wpOp P ops Q i K a w := by
  have hw : Region.wanted o (yielded ops a.tmps) = true := by simp [Region.wanted, hg]
  unfold wpOp
  rw [ho]
  show if Region.wanted o (yielded ops a.tmps) = true then _ else _
  rw [if_pos hw]
  left
  unfold Oper.wp
  simp [execOp, hop, run_makeMap, Result.andThen, Oper.upon_value]
  exact hK

theorem info57 : (Try.prog.info? 57).map (fun i => (i.zero, i.size, i.bytes)) = some (some (.slice none 0 0), 1, 24) := by kernel_rfl
theorem info54 : (Try.prog.info? 54).map (fun i => (i.zero, i.size, i.bytes)) = some (some (.agg #[.slice none 0 0, .int .u8 0]), 2, 32) := by kernel_rfl
theorem under43 : Try.prog.underlying 43 = some (.slice 57) := by kernel_rfl
theorem under32 : Try.prog.underlying 32 = some (.slice 25) := by kernel_rfl
theorem under44 : Try.prog.underlying 44 = some (.slice 54) := by kernel_rfl
theorem under25 : Try.prog.underlying 25 = some (.slice 3) := by kernel_rfl
end Go.Proofs.Qxb6616109a
