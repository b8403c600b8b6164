/-
  No cell of these rows narrows 'for every input' (looked for: loops, veiled, ifaces, maps, wideKeys, modest, calm, conditions, laid).
  DERIVED. THE GIVEN ROWS OF THIS SEAT. 2 by the template 'for every input the law returns true; each argument reads behind the call as it read before'; 0 by the template 'total and deterministic' (their statements: Qxb6618448aTotals.lean).
  GIVEN WITH THE SEED: the statements are not yours to turn. If you find one false, say at which input.
  Laid BY PROGRAM, IN A SANDBOX (cutbox-rows.mjs): the forced cells as the released guide's own fill.sh prints them over the translation 090d7f473eaa7ae9… (all of the seat's roots in one cut). By AI agents, Wed Nov 11 2026. No macro, syntax, notation, axiom, sorry.
-/
import Derived.Test.Qxb6618448aChecked
import GoSem.Claim
import GoSem.ClaimJoined
import GoSem.ClaimMapViews
import Derived.JoinedTies
import Derived.KernelRfl
namespace Go.Proofs.Qxb6618448a
/- THE CELL 'sum', in the pinned program and in every row, IS THE sha256 OF THE DUMP (.gsa) THAT Qxb6618448aProg.lean LOADS. Nothing in Lean hashes anything: it is a label: what it is worth is what the hold of that sum in a sandbox is worth. -/
noncomputable def Try.pinned : Pinned := { name := "qxb6618448a", sum := "090d7f473eaa7ae901604d7a74bd81f1fa2eac0200418904f275b7f2e8e027ee", checked := Try.checked }
namespace Rows
def none {H : Type} : Left H := { results := [], args := [] }

/-- 'zzlaws_internal_madecatalog_b1.FnDefaultCountEachBlockHoldsFortyNine': WHATEVER THE INPUT: true; the input reads as it did. -/
def fnDefaultCountEachBlockHoldsFortyNineSpec : ChangeSpec := { name := "fnDefaultCountEachBlockHoldsFortyNine", fn := fun _ => fun
  | [d1, d2] => { results := [.lit (.bool true)], args := [d1, d2] }
  | _ => none }
def fnDefaultCountEachBlockHoldsFortyNineRow : OpenClaim := { program := "qxb6618448a", sum := "090d7f473eaa7ae901604d7a74bd81f1fa2eac0200418904f275b7f2e8e027ee", func := "example.com/resolvent/resolvent/zzlaws_internal_madecatalog_b1.FnDefaultCountEachBlockHoldsFortyNine", spec := "fnDefaultCountEachBlockHoldsFortyNine", apart := false }
def FnDefaultCountEachBlockHoldsFortyNineSaid : Prop := fnDefaultCountEachBlockHoldsFortyNineRow.holds Try.pinned (OpenSpec.ofChange fnDefaultCountEachBlockHoldsFortyNineSpec)

/-- ITS FALSE NEIGHBOUR: 'it returns false'. Refute it at one input. -/
def fnDefaultCountEachBlockHoldsFortyNineWrong : ChangeSpec := { name := "fnDefaultCountEachBlockHoldsFortyNine", fn := fun _ => fun
  | [d1, d2] => { results := [.lit (.bool false)], args := [d1, d2] }
  | _ => none }
def FnDefaultCountEachBlockHoldsFortyNineWrongFalsely : Prop := fnDefaultCountEachBlockHoldsFortyNineRow.holds Try.pinned (OpenSpec.ofChange fnDefaultCountEachBlockHoldsFortyNineWrong)

/-- 'zzlaws_internal_madecatalog_b1.FnDefaultCountTotalIsFortyNinePerScale': WHATEVER THE INPUT: true; the input reads as it did. -/
def fnDefaultCountTotalIsFortyNinePerScaleSpec : ChangeSpec := { name := "fnDefaultCountTotalIsFortyNinePerScale", fn := fun _ => fun
  | [d1, d2] => { results := [.lit (.bool true)], args := [d1, d2] }
  | _ => none }
def fnDefaultCountTotalIsFortyNinePerScaleRow : OpenClaim := { program := "qxb6618448a", sum := "090d7f473eaa7ae901604d7a74bd81f1fa2eac0200418904f275b7f2e8e027ee", func := "example.com/resolvent/resolvent/zzlaws_internal_madecatalog_b1.FnDefaultCountTotalIsFortyNinePerScale", spec := "fnDefaultCountTotalIsFortyNinePerScale", apart := false }
def FnDefaultCountTotalIsFortyNinePerScaleSaid : Prop := fnDefaultCountTotalIsFortyNinePerScaleRow.holds Try.pinned (OpenSpec.ofChange fnDefaultCountTotalIsFortyNinePerScaleSpec)

/-- ITS FALSE NEIGHBOUR: 'it returns false'. Refute it at one input. -/
def fnDefaultCountTotalIsFortyNinePerScaleWrong : ChangeSpec := { name := "fnDefaultCountTotalIsFortyNinePerScale", fn := fun _ => fun
  | [d1, d2] => { results := [.lit (.bool false)], args := [d1, d2] }
  | _ => none }
def FnDefaultCountTotalIsFortyNinePerScaleWrongFalsely : Prop := fnDefaultCountTotalIsFortyNinePerScaleRow.holds Try.pinned (OpenSpec.ofChange fnDefaultCountTotalIsFortyNinePerScaleWrong)

end Rows
end Go.Proofs.Qxb6618448a
