/-
  No cell of these rows narrows 'for every input' (looked for: loops, veiled, ifaces, maps, wideKeys, modest, calm, conditions, laid).
  DERIVED. THE GIVEN ROWS OF THIS SEAT. 1 by the template 'for every input the law returns true; each argument reads behind the call as it read before'; 0 by the template 'total and deterministic' (their statements: Qxb6623453aTotals.lean).
  GIVEN WITH THE SEED: the statements are not yours to turn. If you find one false, say at which input.
  Laid BY PROGRAM, IN A SANDBOX (cutbox-rows.mjs): the forced cells as the released guide's own fill.sh prints them over the translation 19e3de1af81eda9b… (all of the seat's roots in one cut). By AI agents, Wed Nov 11 2026. No macro, syntax, notation, axiom, sorry.
-/
import Derived.Test.Qxb6623453aChecked
import GoSem.Claim
import GoSem.ClaimJoined
import GoSem.ClaimMapViews
import Derived.JoinedTies
import Derived.KernelRfl
namespace Go.Proofs.Qxb6623453a
/- THE CELL 'sum', in the pinned program and in every row, IS THE sha256 OF THE DUMP (.gsa) THAT Qxb6623453aProg.lean LOADS. Nothing in Lean hashes anything: it is a label: what it is worth is what the hold of that sum in a sandbox is worth. -/
noncomputable def Try.pinned : Pinned := { name := "qxb6623453a", sum := "19e3de1af81eda9b7fc630368e2c5e5358685b971d33805164a9e457bc6a7c55", checked := Try.checked }
namespace Rows
def none {H : Type} : Left H := { results := [], args := [] }

/-- 'zzlaws_pkg_scan_b1.FnChangeScriptKeepsLastByPos': WHATEVER THE INPUT: true; the input reads as it did. -/
def fnChangeScriptKeepsLastByPosSpec : ChangeSpec := { name := "fnChangeScriptKeepsLastByPos", fn := fun _ => fun
  | [d1, d2, d3, d4, d5, d6, d7, d8] => { results := [.lit (.bool true)], args := [d1, d2, d3, d4, d5, d6, d7, d8] }
  | _ => none }
def fnChangeScriptKeepsLastByPosRow : OpenClaim := { program := "qxb6623453a", sum := "19e3de1af81eda9b7fc630368e2c5e5358685b971d33805164a9e457bc6a7c55", func := "example.com/mxweir/mxweir/zzlaws_pkg_scan_b1.FnChangeScriptKeepsLastByPos", spec := "fnChangeScriptKeepsLastByPos", inPlace := ["slices.overlaps[example.com/mxweir/mxweir/pkg/scan.Change]"], unfollowed := true, recurses := true, apart := false }
def FnChangeScriptKeepsLastByPosSaid : Prop := fnChangeScriptKeepsLastByPosRow.holds Try.pinned (OpenSpec.ofChange fnChangeScriptKeepsLastByPosSpec)

/-- ITS FALSE NEIGHBOUR: 'it returns false'. Refute it at one input. -/
def fnChangeScriptKeepsLastByPosWrong : ChangeSpec := { name := "fnChangeScriptKeepsLastByPos", fn := fun _ => fun
  | [d1, d2, d3, d4, d5, d6, d7, d8] => { results := [.lit (.bool false)], args := [d1, d2, d3, d4, d5, d6, d7, d8] }
  | _ => none }
def FnChangeScriptKeepsLastByPosWrongFalsely : Prop := fnChangeScriptKeepsLastByPosRow.holds Try.pinned (OpenSpec.ofChange fnChangeScriptKeepsLastByPosWrong)

end Rows
end Go.Proofs.Qxb6623453a
