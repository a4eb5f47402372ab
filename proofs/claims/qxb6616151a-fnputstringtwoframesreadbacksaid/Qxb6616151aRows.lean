/-
  No cell of these rows narrows 'for every input' (looked for: loops, veiled, ifaces, maps, wideKeys, modest, calm, conditions, laid).
  DERIVED. THE GIVEN ROWS OF THIS SEAT. 2 by the template 'for every input the law returns true; each argument reads behind the call as it read before'; 0 by the template 'total and deterministic' (their statements: Qxb6616151aTotals.lean).
  GIVEN WITH THE SEED: the statements are not yours to turn. If you find one false, say at which input.
  Laid BY PROGRAM, IN A SANDBOX (cutbox-rows.mjs): the forced cells as the released guide's own fill.sh prints them over the translation 502e2199a5e02f87… (all of the seat's roots in one cut). By AI agents, Wed Nov 11 2026. No macro, syntax, notation, axiom, sorry.
-/
import Derived.Test.Qxb6616151aChecked
import GoSem.Claim
import GoSem.ClaimJoined
import GoSem.ClaimMapViews
import Derived.JoinedTies
import Derived.KernelRfl
namespace Go.Proofs.Qxb6616151a
/- THE CELL 'sum', in the pinned program and in every row, IS THE sha256 OF THE DUMP (.gsa) THAT Qxb6616151aProg.lean LOADS. Nothing in Lean hashes anything: it is a label: what it is worth is what the hold of that sum in a sandbox is worth. -/
noncomputable def Try.pinned : Pinned := { name := "qxb6616151a", sum := "502e2199a5e02f870b8074511da77d5e064de5d8252d45d4c6a3da2af70322bc", checked := Try.checked }
namespace Rows
def none {H : Type} : Left H := { results := [], args := [] }

/-- 'zzlaws_internal_engine_b1.FnPutStringTwoFramesReadBack': WHATEVER THE INPUT: true; the input reads as it did. -/
def fnPutStringTwoFramesReadBackSpec : ChangeSpec := { name := "fnPutStringTwoFramesReadBack", fn := fun _ => fun
  | [d1, d2, d3] => { results := [.lit (.bool true)], args := [d1, d2, d3] }
  | _ => none }
def fnPutStringTwoFramesReadBackRow : OpenClaim := { program := "qxb6616151a", sum := "502e2199a5e02f870b8074511da77d5e064de5d8252d45d4c6a3da2af70322bc", func := "example.com/tenure/tenure/zzlaws_internal_engine_b1.FnPutStringTwoFramesReadBack", spec := "fnPutStringTwoFramesReadBack", apart := false }
def FnPutStringTwoFramesReadBackSaid : Prop := fnPutStringTwoFramesReadBackRow.holds Try.pinned (OpenSpec.ofChange fnPutStringTwoFramesReadBackSpec)

/-- ITS FALSE NEIGHBOUR: 'it returns false'. Refute it at one input. -/
def fnPutStringTwoFramesReadBackWrong : ChangeSpec := { name := "fnPutStringTwoFramesReadBack", fn := fun _ => fun
  | [d1, d2, d3] => { results := [.lit (.bool false)], args := [d1, d2, d3] }
  | _ => none }
def FnPutStringTwoFramesReadBackWrongFalsely : Prop := fnPutStringTwoFramesReadBackRow.holds Try.pinned (OpenSpec.ofChange fnPutStringTwoFramesReadBackWrong)

/-- 'zzlaws_internal_engine_b1.FnPutStringFrameIndependentOfPrefixAndInjective': WHATEVER THE INPUT: true; the input reads as it did. -/
def fnPutStringFrameIndependentOfPrefixAndInjectiveSpec : ChangeSpec := { name := "fnPutStringFrameIndependentOfPrefixAndInjective", fn := fun _ => fun
  | [d1, d2, d3] => { results := [.lit (.bool true)], args := [d1, d2, d3] }
  | _ => none }
def fnPutStringFrameIndependentOfPrefixAndInjectiveRow : OpenClaim := { program := "qxb6616151a", sum := "502e2199a5e02f870b8074511da77d5e064de5d8252d45d4c6a3da2af70322bc", func := "example.com/tenure/tenure/zzlaws_internal_engine_b1.FnPutStringFrameIndependentOfPrefixAndInjective", spec := "fnPutStringFrameIndependentOfPrefixAndInjective", apart := false }
def FnPutStringFrameIndependentOfPrefixAndInjectiveSaid : Prop := fnPutStringFrameIndependentOfPrefixAndInjectiveRow.holds Try.pinned (OpenSpec.ofChange fnPutStringFrameIndependentOfPrefixAndInjectiveSpec)

/-- ITS FALSE NEIGHBOUR: 'it returns false'. Refute it at one input. -/
def fnPutStringFrameIndependentOfPrefixAndInjectiveWrong : ChangeSpec := { name := "fnPutStringFrameIndependentOfPrefixAndInjective", fn := fun _ => fun
  | [d1, d2, d3] => { results := [.lit (.bool false)], args := [d1, d2, d3] }
  | _ => none }
def FnPutStringFrameIndependentOfPrefixAndInjectiveWrongFalsely : Prop := fnPutStringFrameIndependentOfPrefixAndInjectiveRow.holds Try.pinned (OpenSpec.ofChange fnPutStringFrameIndependentOfPrefixAndInjectiveWrong)

end Rows
end Go.Proofs.Qxb6616151a
