/-
  No cell of these rows narrows 'for every input' (looked for: loops, veiled, ifaces, maps, wideKeys, modest, calm, conditions, laid).
  DERIVED. THE GIVEN ROWS OF THIS SEAT. 1 by the template 'for every input the law returns true; each argument reads behind the call as it read before'; 0 by the template 'total and deterministic' (their statements: Qxb6623351aTotals.lean).
  GIVEN WITH THE SEED: the statements are not yours to turn. If you find one false, say at which input.
  Laid BY PROGRAM, IN A SANDBOX (cutbox-rows.mjs): the forced cells as the released guide's own fill.sh prints them over the translation f23e26d8ab2c2f2d… (all of the seat's roots in one cut). By AI agents, Wed Nov 11 2026. No macro, syntax, notation, axiom, sorry.
-/
import Derived.Test.Qxb6623351aChecked
import GoSem.Claim
import GoSem.ClaimJoined
import GoSem.ClaimMapViews
import Derived.JoinedTies
import Derived.KernelRfl
namespace Go.Proofs.Qxb6623351a
/- THE CELL 'sum', in the pinned program and in every row, IS THE sha256 OF THE DUMP (.gsa) THAT Qxb6623351aProg.lean LOADS. Nothing in Lean hashes anything: it is a label: what it is worth is what the hold of that sum in a sandbox is worth. -/
noncomputable def Try.pinned : Pinned := { name := "qxb6623351a", sum := "f23e26d8ab2c2f2d2d2e9de517e98c29e0166a94dcf1f9dcd11b211a5bf423ca", checked := Try.checked }
namespace Rows
def none {H : Type} : Left H := { results := [], args := [] }

/-- 'zzlaws_root_b1.FnWithDefaultsWhole': WHATEVER THE INPUT: true; the input reads as it did. -/
def fnWithDefaultsWholeSpec : ChangeSpec := { name := "fnWithDefaultsWhole", fn := fun _ => fun
  | [d1, d2, d3] => { results := [.lit (.bool true)], args := [d1, d2, d3] }
  | _ => none }
def fnWithDefaultsWholeRow : OpenClaim := { program := "qxb6623351a", sum := "f23e26d8ab2c2f2d2d2e9de517e98c29e0166a94dcf1f9dcd11b211a5bf423ca", func := "example.com/wirelace/wirelace/zzlaws_root_b1.FnWithDefaultsWhole", spec := "fnWithDefaultsWhole", apart := false }
def FnWithDefaultsWholeSaid : Prop := fnWithDefaultsWholeRow.holds Try.pinned (OpenSpec.ofChange fnWithDefaultsWholeSpec)

/-- ITS FALSE NEIGHBOUR: 'it returns false'. Refute it at one input. -/
def fnWithDefaultsWholeWrong : ChangeSpec := { name := "fnWithDefaultsWhole", fn := fun _ => fun
  | [d1, d2, d3] => { results := [.lit (.bool false)], args := [d1, d2, d3] }
  | _ => none }
def FnWithDefaultsWholeWrongFalsely : Prop := fnWithDefaultsWholeRow.holds Try.pinned (OpenSpec.ofChange fnWithDefaultsWholeWrong)

end Rows
end Go.Proofs.Qxb6623351a
