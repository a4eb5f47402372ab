/-
  No cell of these rows narrows 'for every input' (looked for: loops, veiled, ifaces, maps, wideKeys, modest, calm, conditions, laid).
  DERIVED. THE GIVEN ROWS OF THIS SEAT. 3 by the template 'for every input the law returns true; each argument reads behind the call as it read before'; 0 by the template 'total and deterministic' (their statements: Qxb6616109aTotals.lean).
  GIVEN WITH THE SEED: the statements are not yours to turn. If you find one false, say at which input.
  Laid BY PROGRAM, IN A SANDBOX (cutbox-rows.mjs): the forced cells as the released guide's own fill.sh prints them over the translation 6e1f8f0e62849b43… (all of the seat's roots in one cut). By AI agents, Wed Nov 11 2026. No macro, syntax, notation, axiom, sorry.
-/
import Derived.Test.Qxb6616109aChecked
import GoSem.Claim
import GoSem.ClaimJoined
import GoSem.ClaimMapViews
import Derived.JoinedTies
import Derived.KernelRfl
namespace Go.Proofs.Qxb6616109a
/- THE CELL 'sum', in the pinned program and in every row, IS THE sha256 OF THE DUMP (.gsa) THAT Qxb6616109aProg.lean LOADS. Nothing in Lean hashes anything: it is a label: what it is worth is what the hold of that sum in a sandbox is worth. -/
noncomputable def Try.pinned : Pinned := { name := "qxb6616109a", sum := "6e1f8f0e62849b4360ea849b5570fb7acdfab4508a8b799bf4bd473051ad193c", checked := Try.checked }
namespace Rows
def none {H : Type} : Left H := { results := [], args := [] }

/-- 'zzlaws_internal_cc_b1.FnHoldsExclusiveHandOver': WHATEVER THE INPUT: true; the input reads as it did. -/
def fnHoldsExclusiveHandOverSpec : ChangeSpec := { name := "fnHoldsExclusiveHandOver", fn := fun _ => fun
  | [d1, d2, d3, d4, d5] => { results := [.lit (.bool true)], args := [d1, d2, d3, d4, d5] }
  | _ => none }
def fnHoldsExclusiveHandOverRow : OpenClaim := { program := "qxb6616109a", sum := "6e1f8f0e62849b4360ea849b5570fb7acdfab4508a8b799bf4bd473051ad193c", func := "example.com/serialis/serialis/zzlaws_internal_cc_b1.FnHoldsExclusiveHandOver", spec := "fnHoldsExclusiveHandOver", unfollowed := true, recurses := true, apart := false }
def FnHoldsExclusiveHandOverSaid : Prop := fnHoldsExclusiveHandOverRow.holds Try.pinned (OpenSpec.ofChange fnHoldsExclusiveHandOverSpec)

/-- ITS FALSE NEIGHBOUR: 'it returns false'. Refute it at one input. -/
def fnHoldsExclusiveHandOverWrong : ChangeSpec := { name := "fnHoldsExclusiveHandOver", fn := fun _ => fun
  | [d1, d2, d3, d4, d5] => { results := [.lit (.bool false)], args := [d1, d2, d3, d4, d5] }
  | _ => none }
def FnHoldsExclusiveHandOverWrongFalsely : Prop := fnHoldsExclusiveHandOverRow.holds Try.pinned (OpenSpec.ofChange fnHoldsExclusiveHandOverWrong)

/-- 'zzlaws_internal_cc_b1.FnDeadlockedWholeAnswerOnExclusiveScript': WHATEVER THE INPUT: true; the input reads as it did. -/
def fnDeadlockedWholeAnswerOnExclusiveScriptSpec : ChangeSpec := { name := "fnDeadlockedWholeAnswerOnExclusiveScript", fn := fun _ => fun
  | [d1, d2, d3, d4, d5, d6, d7, d8] => { results := [.lit (.bool true)], args := [d1, d2, d3, d4, d5, d6, d7, d8] }
  | _ => none }
def fnDeadlockedWholeAnswerOnExclusiveScriptRow : OpenClaim := { program := "qxb6616109a", sum := "6e1f8f0e62849b4360ea849b5570fb7acdfab4508a8b799bf4bd473051ad193c", func := "example.com/serialis/serialis/zzlaws_internal_cc_b1.FnDeadlockedWholeAnswerOnExclusiveScript", spec := "fnDeadlockedWholeAnswerOnExclusiveScript", unfollowed := true, recurses := true, apart := false }
def FnDeadlockedWholeAnswerOnExclusiveScriptSaid : Prop := fnDeadlockedWholeAnswerOnExclusiveScriptRow.holds Try.pinned (OpenSpec.ofChange fnDeadlockedWholeAnswerOnExclusiveScriptSpec)

/-- ITS FALSE NEIGHBOUR: 'it returns false'. Refute it at one input. -/
def fnDeadlockedWholeAnswerOnExclusiveScriptWrong : ChangeSpec := { name := "fnDeadlockedWholeAnswerOnExclusiveScript", fn := fun _ => fun
  | [d1, d2, d3, d4, d5, d6, d7, d8] => { results := [.lit (.bool false)], args := [d1, d2, d3, d4, d5, d6, d7, d8] }
  | _ => none }
def FnDeadlockedWholeAnswerOnExclusiveScriptWrongFalsely : Prop := fnDeadlockedWholeAnswerOnExclusiveScriptRow.holds Try.pinned (OpenSpec.ofChange fnDeadlockedWholeAnswerOnExclusiveScriptWrong)

/-- 'zzlaws_internal_cc_b1.FnAwaitAfterAbortStartsAnew': WHATEVER THE INPUT: true; the input reads as it did. -/
def fnAwaitAfterAbortStartsAnewSpec : ChangeSpec := { name := "fnAwaitAfterAbortStartsAnew", fn := fun _ => fun
  | [d1, d2, d3, d4] => { results := [.lit (.bool true)], args := [d1, d2, d3, d4] }
  | _ => none }
def fnAwaitAfterAbortStartsAnewRow : OpenClaim := { program := "qxb6616109a", sum := "6e1f8f0e62849b4360ea849b5570fb7acdfab4508a8b799bf4bd473051ad193c", func := "example.com/serialis/serialis/zzlaws_internal_cc_b1.FnAwaitAfterAbortStartsAnew", spec := "fnAwaitAfterAbortStartsAnew", unfollowed := true, recurses := true, apart := false }
def FnAwaitAfterAbortStartsAnewSaid : Prop := fnAwaitAfterAbortStartsAnewRow.holds Try.pinned (OpenSpec.ofChange fnAwaitAfterAbortStartsAnewSpec)

/-- ITS FALSE NEIGHBOUR: 'it returns false'. Refute it at one input. -/
def fnAwaitAfterAbortStartsAnewWrong : ChangeSpec := { name := "fnAwaitAfterAbortStartsAnew", fn := fun _ => fun
  | [d1, d2, d3, d4] => { results := [.lit (.bool false)], args := [d1, d2, d3, d4] }
  | _ => none }
def FnAwaitAfterAbortStartsAnewWrongFalsely : Prop := fnAwaitAfterAbortStartsAnewRow.holds Try.pinned (OpenSpec.ofChange fnAwaitAfterAbortStartsAnewWrong)

end Rows
end Go.Proofs.Qxb6616109a
