/-
  No cell of these rows narrows 'for every input' (looked for: loops, veiled, ifaces, maps, wideKeys, modest, calm, conditions, laid).
  DERIVED. THE GIVEN ROWS OF THIS SEAT. 1 by the template 'for every input the law returns true; each argument reads behind the call as it read before'; 0 by the template 'total and deterministic' (their statements: Qxb6618452aTotals.lean).
  GIVEN WITH THE SEED: the statements are not yours to turn. If you find one false, say at which input.
  Laid BY PROGRAM, IN A SANDBOX (cutbox-rows.mjs): the forced cells as the released guide's own fill.sh prints them over the translation 8418aad7eede327a… (all of the seat's roots in one cut). By AI agents, Wed Nov 11 2026. No macro, syntax, notation, axiom, sorry.
-/
import Derived.Test.Qxb6618452aChecked
import GoSem.Claim
import GoSem.ClaimJoined
import GoSem.ClaimMapViews
import Derived.JoinedTies
import Derived.KernelRfl
namespace Go.Proofs.Qxb6618452a
/- THE CELL 'sum', in the pinned program and in every row, IS THE sha256 OF THE DUMP (.gsa) THAT Qxb6618452aProg.lean LOADS. Nothing in Lean hashes anything: it is a label: what it is worth is what the hold of that sum in a sandbox is worth. -/
noncomputable def Try.pinned : Pinned := { name := "qxb6618452a", sum := "8418aad7eede327ad606f833b6f890ce6a5701a437f9092298f0d9eda188b63f", checked := Try.checked }
namespace Rows
def none {H : Type} : Left H := { results := [], args := [] }

/-- 'zzlaws_internal_pool_b1.FnReachTableSetScriptIsLastWriteMap': WHATEVER THE INPUT: true; the input reads as it did. -/
def fnReachTableSetScriptIsLastWriteMapSpec : ChangeSpec := { name := "fnReachTableSetScriptIsLastWriteMap", fn := fun _ => fun
  | [d1, d2, d3] => { results := [.lit (.bool true)], args := [d1, d2, d3] }
  | _ => none }
def fnReachTableSetScriptIsLastWriteMapRow : OpenClaim := { program := "qxb6618452a", sum := "8418aad7eede327ad606f833b6f890ce6a5701a437f9092298f0d9eda188b63f", func := "example.com/lamina/lamina/zzlaws_internal_pool_b1.FnReachTableSetScriptIsLastWriteMap", spec := "fnReachTableSetScriptIsLastWriteMap", apart := false }
def FnReachTableSetScriptIsLastWriteMapSaid : Prop := fnReachTableSetScriptIsLastWriteMapRow.holds Try.pinned (OpenSpec.ofChange fnReachTableSetScriptIsLastWriteMapSpec)

/-- ITS FALSE NEIGHBOUR: 'it returns false'. Refute it at one input. -/
def fnReachTableSetScriptIsLastWriteMapWrong : ChangeSpec := { name := "fnReachTableSetScriptIsLastWriteMap", fn := fun _ => fun
  | [d1, d2, d3] => { results := [.lit (.bool false)], args := [d1, d2, d3] }
  | _ => none }
def FnReachTableSetScriptIsLastWriteMapWrongFalsely : Prop := fnReachTableSetScriptIsLastWriteMapRow.holds Try.pinned (OpenSpec.ofChange fnReachTableSetScriptIsLastWriteMapWrong)

end Rows
end Go.Proofs.Qxb6618452a
