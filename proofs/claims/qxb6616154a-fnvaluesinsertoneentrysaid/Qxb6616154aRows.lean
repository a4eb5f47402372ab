/-
  No cell of these rows narrows 'for every input' (looked for: loops, veiled, ifaces, maps, wideKeys, modest, calm, conditions, laid).
  DERIVED. THE GIVEN ROWS OF THIS SEAT. 3 by the template 'for every input the law returns true; each argument reads behind the call as it read before'; 0 by the template 'total and deterministic' (their statements: Qxb6616154aTotals.lean).
  GIVEN WITH THE SEED: the statements are not yours to turn. If you find one false, say at which input.
  Laid BY PROGRAM, IN A SANDBOX (cutbox-rows.mjs): the forced cells as the released guide's own fill.sh prints them over the translation 8820cb10586351bf… (all of the seat's roots in one cut). By AI agents, Wed Nov 11 2026. No macro, syntax, notation, axiom, sorry.
-/
import Derived.Test.Qxb6616154aChecked
import GoSem.Claim
import GoSem.ClaimJoined
import GoSem.ClaimMapViews
import Derived.JoinedTies
import Derived.KernelRfl
namespace Go.Proofs.Qxb6616154a
/- THE CELL 'sum', in the pinned program and in every row, IS THE sha256 OF THE DUMP (.gsa) THAT Qxb6616154aProg.lean LOADS. Nothing in Lean hashes anything: it is a label: what it is worth is what the hold of that sum in a sandbox is worth. -/
noncomputable def Try.pinned : Pinned := { name := "qxb6616154a", sum := "8820cb10586351bf8b7407f6dc26beef18084a8e9a5f85b54436834a5b2d9428", checked := Try.checked }
namespace Rows
def none {H : Type} : Left H := { results := [], args := [] }

/-- 'zzlaws_root_b1.FnValuesSplitAtAnyCut': WHATEVER THE INPUT: true; the input reads as it did. -/
def fnValuesSplitAtAnyCutSpec : ChangeSpec := { name := "fnValuesSplitAtAnyCut", fn := fun _ => fun
  | [d1, d2, d3, d4, d5] => { results := [.lit (.bool true)], args := [d1, d2, d3, d4, d5] }
  | _ => none }
def fnValuesSplitAtAnyCutRow : OpenClaim := { program := "qxb6616154a", sum := "8820cb10586351bf8b7407f6dc26beef18084a8e9a5f85b54436834a5b2d9428", func := "example.com/strict-conf/strict-conf/zzlaws_root_b1.FnValuesSplitAtAnyCut", spec := "fnValuesSplitAtAnyCut", apart := false }
def FnValuesSplitAtAnyCutSaid : Prop := fnValuesSplitAtAnyCutRow.holds Try.pinned (OpenSpec.ofChange fnValuesSplitAtAnyCutSpec)

/-- ITS FALSE NEIGHBOUR: 'it returns false'. Refute it at one input. -/
def fnValuesSplitAtAnyCutWrong : ChangeSpec := { name := "fnValuesSplitAtAnyCut", fn := fun _ => fun
  | [d1, d2, d3, d4, d5] => { results := [.lit (.bool false)], args := [d1, d2, d3, d4, d5] }
  | _ => none }
def FnValuesSplitAtAnyCutWrongFalsely : Prop := fnValuesSplitAtAnyCutRow.holds Try.pinned (OpenSpec.ofChange fnValuesSplitAtAnyCutWrong)

/-- 'zzlaws_root_b1.FnReadersSortedAndFresh': WHATEVER THE INPUT: true; the input reads as it did. -/
def fnReadersSortedAndFreshSpec : ChangeSpec := { name := "fnReadersSortedAndFresh", fn := fun _ => fun
  | [] => { results := [.lit (.bool true)], args := [] }
  | _ => none }
def fnReadersSortedAndFreshRow : OpenClaim := { program := "qxb6616154a", sum := "8820cb10586351bf8b7407f6dc26beef18084a8e9a5f85b54436834a5b2d9428", func := "example.com/strict-conf/strict-conf/zzlaws_root_b1.FnReadersSortedAndFresh", spec := "fnReadersSortedAndFresh", apart := false }
def FnReadersSortedAndFreshSaid : Prop := fnReadersSortedAndFreshRow.holds Try.pinned (OpenSpec.ofChange fnReadersSortedAndFreshSpec)

/-- ITS FALSE NEIGHBOUR: 'it returns false'. Refute it at one input. -/
def fnReadersSortedAndFreshWrong : ChangeSpec := { name := "fnReadersSortedAndFresh", fn := fun _ => fun
  | [] => { results := [.lit (.bool false)], args := [] }
  | _ => none }
def FnReadersSortedAndFreshWrongFalsely : Prop := fnReadersSortedAndFreshRow.holds Try.pinned (OpenSpec.ofChange fnReadersSortedAndFreshWrong)

/-- 'zzlaws_root_b1.FnValuesInsertOneEntry': WHATEVER THE INPUT: true; the input reads as it did. -/
def fnValuesInsertOneEntrySpec : ChangeSpec := { name := "fnValuesInsertOneEntry", fn := fun _ => fun
  | [d1, d2, d3, d4, d5, d6, d7, d8] => { results := [.lit (.bool true)], args := [d1, d2, d3, d4, d5, d6, d7, d8] }
  | _ => none }
def fnValuesInsertOneEntryRow : OpenClaim := { program := "qxb6616154a", sum := "8820cb10586351bf8b7407f6dc26beef18084a8e9a5f85b54436834a5b2d9428", func := "example.com/strict-conf/strict-conf/zzlaws_root_b1.FnValuesInsertOneEntry", spec := "fnValuesInsertOneEntry", apart := false }
def FnValuesInsertOneEntrySaid : Prop := fnValuesInsertOneEntryRow.holds Try.pinned (OpenSpec.ofChange fnValuesInsertOneEntrySpec)

/-- ITS FALSE NEIGHBOUR: 'it returns false'. Refute it at one input. -/
def fnValuesInsertOneEntryWrong : ChangeSpec := { name := "fnValuesInsertOneEntry", fn := fun _ => fun
  | [d1, d2, d3, d4, d5, d6, d7, d8] => { results := [.lit (.bool false)], args := [d1, d2, d3, d4, d5, d6, d7, d8] }
  | _ => none }
def FnValuesInsertOneEntryWrongFalsely : Prop := fnValuesInsertOneEntryRow.holds Try.pinned (OpenSpec.ofChange fnValuesInsertOneEntryWrong)

end Rows
end Go.Proofs.Qxb6616154a
