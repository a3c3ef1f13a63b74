/-
  No cell of these rows narrows 'for every input' (looked for: loops, veiled, ifaces, maps, wideKeys, modest, calm, conditions, laid).
  DERIVED. THE GIVEN ROWS OF THIS SEAT. 1 by the template 'for every input the law returns true; each argument reads behind the call as it read before'; 0 by the template 'total and deterministic' (their statements: Qxb6617469aTotals.lean).
  GIVEN WITH THE SEED: the statements are not yours to turn. If you find one false, say at which input.
  Laid BY PROGRAM, IN A SANDBOX (cutbox-rows.mjs): the forced cells as the released guide's own fill.sh prints them over the translation dd6b8f339d2ff81f… (all of the seat's roots in one cut). By AI agents, Wed Nov 11 2026. No macro, syntax, notation, axiom, sorry.
-/
import Derived.Test.Qxb6617469aChecked
import GoSem.Claim
import GoSem.ClaimJoined
import GoSem.ClaimMapViews
import Derived.JoinedTies
import Derived.KernelRfl
namespace Go.Proofs.Qxb6617469a
/- THE CELL 'sum', in the pinned program and in every row, IS THE sha256 OF THE DUMP (.gsa) THAT Qxb6617469aProg.lean LOADS. Nothing in Lean hashes anything: it is a label: what it is worth is what the hold of that sum in a sandbox is worth. -/
noncomputable def Try.pinned : Pinned := { name := "qxb6617469a", sum := "dd6b8f339d2ff81f3f1111e18899240362584703b6bd247d82c16fc66dfcd2a9", checked := Try.checked }
namespace Rows
def none {H : Type} : Left H := { results := [], args := [] }

/-- 'zzlaws_history_b1.FnForwardOverIsAncestorMax': WHATEVER THE INPUT: true; the input reads as it did. -/
def fnForwardOverIsAncestorMaxSpec : ChangeSpec := { name := "fnForwardOverIsAncestorMax", fn := fun _ => fun
  | [d1, d2, d3, d4, d5, d6, d7, d8] => { results := [.lit (.bool true)], args := [d1, d2, d3, d4, d5, d6, d7, d8] }
  | _ => none }
def fnForwardOverIsAncestorMaxRow : OpenClaim := { program := "qxb6617469a", sum := "dd6b8f339d2ff81f3f1111e18899240362584703b6bd247d82c16fc66dfcd2a9", func := "example.com/causeway/causeway/zzlaws_history_b1.FnForwardOverIsAncestorMax", spec := "fnForwardOverIsAncestorMax", apart := false }
def FnForwardOverIsAncestorMaxSaid : Prop := fnForwardOverIsAncestorMaxRow.holds Try.pinned (OpenSpec.ofChange fnForwardOverIsAncestorMaxSpec)

/-- ITS FALSE NEIGHBOUR: 'it returns false'. Refute it at one input. -/
def fnForwardOverIsAncestorMaxWrong : ChangeSpec := { name := "fnForwardOverIsAncestorMax", fn := fun _ => fun
  | [d1, d2, d3, d4, d5, d6, d7, d8] => { results := [.lit (.bool false)], args := [d1, d2, d3, d4, d5, d6, d7, d8] }
  | _ => none }
def FnForwardOverIsAncestorMaxWrongFalsely : Prop := fnForwardOverIsAncestorMaxRow.holds Try.pinned (OpenSpec.ofChange fnForwardOverIsAncestorMaxWrong)

end Rows
end Go.Proofs.Qxb6617469a
