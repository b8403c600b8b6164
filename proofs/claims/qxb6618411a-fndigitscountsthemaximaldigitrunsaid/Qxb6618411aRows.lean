/-
  No cell of these rows narrows 'for every input' (looked for: loops, veiled, ifaces, maps, wideKeys, modest, calm, conditions, laid).
  DERIVED. THE GIVEN ROWS OF THIS SEAT. 1 by the template 'for every input the law returns true; each argument reads behind the call as it read before'; 0 by the template 'total and deterministic' (their statements: Qxb6618411aTotals.lean).
  GIVEN WITH THE SEED: the statements are not yours to turn. If you find one false, say at which input.
  Laid BY PROGRAM, IN A SANDBOX (cutbox-rows.mjs): the forced cells as the released guide's own fill.sh prints them over the translation 7233be7e048c1e6a… (all of the seat's roots in one cut). By AI agents, Wed Nov 11 2026. No macro, syntax, notation, axiom, sorry.
-/
import Derived.Test.Qxb6618411aChecked
import GoSem.Claim
import GoSem.ClaimJoined
import GoSem.ClaimMapViews
import Derived.JoinedTies
import Derived.KernelRfl
namespace Go.Proofs.Qxb6618411a
/- THE CELL 'sum', in the pinned program and in every row, IS THE sha256 OF THE DUMP (.gsa) THAT Qxb6618411aProg.lean LOADS. Nothing in Lean hashes anything: it is a label: what it is worth is what the hold of that sum in a sandbox is worth. -/
noncomputable def Try.pinned : Pinned := { name := "qxb6618411a", sum := "7233be7e048c1e6af87a319c05a53cde4bafd25bbff0eed5b9ea3f2f8e6e6574", checked := Try.checked }
namespace Rows
def none {H : Type} : Left H := { results := [], args := [] }

/-- 'zzlaws_contract_b1.FnDigitsCountsTheMaximalDigitRun': WHATEVER THE INPUT: true; the input reads as it did. -/
def fnDigitsCountsTheMaximalDigitRunSpec : ChangeSpec := { name := "fnDigitsCountsTheMaximalDigitRun", fn := fun _ => fun
  | [d1, d2] => { results := [.lit (.bool true)], args := [d1, d2] }
  | _ => none }
def fnDigitsCountsTheMaximalDigitRunRow : OpenClaim := { program := "qxb6618411a", sum := "7233be7e048c1e6af87a319c05a53cde4bafd25bbff0eed5b9ea3f2f8e6e6574", func := "example.com/pulseroster/pulseroster/zzlaws_contract_b1.FnDigitsCountsTheMaximalDigitRun", spec := "fnDigitsCountsTheMaximalDigitRun", apart := false }
def FnDigitsCountsTheMaximalDigitRunSaid : Prop := fnDigitsCountsTheMaximalDigitRunRow.holds Try.pinned (OpenSpec.ofChange fnDigitsCountsTheMaximalDigitRunSpec)

/-- ITS FALSE NEIGHBOUR: 'it returns false'. Refute it at one input. -/
def fnDigitsCountsTheMaximalDigitRunWrong : ChangeSpec := { name := "fnDigitsCountsTheMaximalDigitRun", fn := fun _ => fun
  | [d1, d2] => { results := [.lit (.bool false)], args := [d1, d2] }
  | _ => none }
def FnDigitsCountsTheMaximalDigitRunWrongFalsely : Prop := fnDigitsCountsTheMaximalDigitRunRow.holds Try.pinned (OpenSpec.ofChange fnDigitsCountsTheMaximalDigitRunWrong)

end Rows
end Go.Proofs.Qxb6618411a
