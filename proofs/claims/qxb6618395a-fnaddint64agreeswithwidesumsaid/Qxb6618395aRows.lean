/-
  No cell of these rows narrows 'for every input' (looked for: loops, veiled, ifaces, maps, wideKeys, modest, calm, conditions, laid).
  DERIVED. THE GIVEN ROWS OF THIS SEAT. 2 by the template 'for every input the law returns true; each argument reads behind the call as it read before'; 0 by the template 'total and deterministic' (their statements: Qxb6618395aTotals.lean).
  GIVEN WITH THE SEED: the statements are not yours to turn. If you find one false, say at which input.
  Laid BY PROGRAM, IN A SANDBOX (cutbox-rows.mjs): the forced cells as the released guide's own fill.sh prints them over the translation 0312a97f8a1348c8… (all of the seat's roots in one cut). By AI agents, Wed Nov 11 2026. No macro, syntax, notation, axiom, sorry.
-/
import Derived.Test.Qxb6618395aChecked
import GoSem.Claim
import GoSem.ClaimJoined
import GoSem.ClaimMapViews
import Derived.JoinedTies
import Derived.KernelRfl
namespace Go.Proofs.Qxb6618395a
/- THE CELL 'sum', in the pinned program and in every row, IS THE sha256 OF THE DUMP (.gsa) THAT Qxb6618395aProg.lean LOADS. Nothing in Lean hashes anything: it is a label: what it is worth is what the hold of that sum in a sandbox is worth. -/
noncomputable def Try.pinned : Pinned := { name := "qxb6618395a", sum := "0312a97f8a1348c8d05a6996180fd3f4ad9c4ce0404ea7ea494c8d29d3c6b974", checked := Try.checked }
namespace Rows
def none {H : Type} : Left H := { results := [], args := [] }

/-- 'zzlaws_pkg_money_b1.FnAddInt64AgreesWithWideSum': WHATEVER THE INPUT: true; the input reads as it did. -/
def fnAddInt64AgreesWithWideSumSpec : ChangeSpec := { name := "fnAddInt64AgreesWithWideSum", fn := fun _ => fun
  | [d1, d2] => { results := [.lit (.bool true)], args := [d1, d2] }
  | _ => none }
def fnAddInt64AgreesWithWideSumRow : OpenClaim := { program := "qxb6618395a", sum := "0312a97f8a1348c8d05a6996180fd3f4ad9c4ce0404ea7ea494c8d29d3c6b974", func := "example.com/custody-compass/custody-compass/zzlaws_pkg_money_b1.FnAddInt64AgreesWithWideSum", spec := "fnAddInt64AgreesWithWideSum", apart := false }
def FnAddInt64AgreesWithWideSumSaid : Prop := fnAddInt64AgreesWithWideSumRow.holds Try.pinned (OpenSpec.ofChange fnAddInt64AgreesWithWideSumSpec)

/-- ITS FALSE NEIGHBOUR: 'it returns false'. Refute it at one input. -/
def fnAddInt64AgreesWithWideSumWrong : ChangeSpec := { name := "fnAddInt64AgreesWithWideSum", fn := fun _ => fun
  | [d1, d2] => { results := [.lit (.bool false)], args := [d1, d2] }
  | _ => none }
def FnAddInt64AgreesWithWideSumWrongFalsely : Prop := fnAddInt64AgreesWithWideSumRow.holds Try.pinned (OpenSpec.ofChange fnAddInt64AgreesWithWideSumWrong)

/-- 'zzlaws_pkg_money_b1.FnAddInt64UndoneByNegation': WHATEVER THE INPUT: true; the input reads as it did. -/
def fnAddInt64UndoneByNegationSpec : ChangeSpec := { name := "fnAddInt64UndoneByNegation", fn := fun _ => fun
  | [d1, d2] => { results := [.lit (.bool true)], args := [d1, d2] }
  | _ => none }
def fnAddInt64UndoneByNegationRow : OpenClaim := { program := "qxb6618395a", sum := "0312a97f8a1348c8d05a6996180fd3f4ad9c4ce0404ea7ea494c8d29d3c6b974", func := "example.com/custody-compass/custody-compass/zzlaws_pkg_money_b1.FnAddInt64UndoneByNegation", spec := "fnAddInt64UndoneByNegation", apart := false }
def FnAddInt64UndoneByNegationSaid : Prop := fnAddInt64UndoneByNegationRow.holds Try.pinned (OpenSpec.ofChange fnAddInt64UndoneByNegationSpec)

/-- ITS FALSE NEIGHBOUR: 'it returns false'. Refute it at one input. -/
def fnAddInt64UndoneByNegationWrong : ChangeSpec := { name := "fnAddInt64UndoneByNegation", fn := fun _ => fun
  | [d1, d2] => { results := [.lit (.bool false)], args := [d1, d2] }
  | _ => none }
def FnAddInt64UndoneByNegationWrongFalsely : Prop := fnAddInt64UndoneByNegationRow.holds Try.pinned (OpenSpec.ofChange fnAddInt64UndoneByNegationWrong)

end Rows
end Go.Proofs.Qxb6618395a
