/-
  No cell of these rows narrows 'for every input' (looked for: loops, veiled, ifaces, maps, wideKeys, modest, calm, conditions, laid).
  DERIVED. THE GIVEN ROWS OF THIS SEAT. 1 by the template 'for every input the law returns true; each argument reads behind the call as it read before'; 0 by the template 'total and deterministic' (their statements: Qxb6617555aTotals.lean).
  GIVEN WITH THE SEED: the statements are not yours to turn. If you find one false, say at which input.
  Laid BY PROGRAM, IN A SANDBOX (cutbox-rows.mjs): the forced cells as the released guide's own fill.sh prints them over the translation dd5a99954014b1dd… (all of the seat's roots in one cut). By AI agents, Wed Nov 11 2026. No macro, syntax, notation, axiom, sorry.
-/
import Derived.Test.Qxb6617555aChecked
import GoSem.Claim
import GoSem.ClaimJoined
import GoSem.ClaimMapViews
import Derived.JoinedTies
import Derived.KernelRfl
namespace Go.Proofs.Qxb6617555a
/- THE CELL 'sum', in the pinned program and in every row, IS THE sha256 OF THE DUMP (.gsa) THAT Qxb6617555aProg.lean LOADS. Nothing in Lean hashes anything: it is a label: what it is worth is what the hold of that sum in a sandbox is worth. -/
noncomputable def Try.pinned : Pinned := { name := "qxb6617555a", sum := "dd5a99954014b1dd0b549737c39e82925dc2f417ba3c2a6918aa6332a77e1373", checked := Try.checked }
namespace Rows
def none {H : Type} : Left H := { results := [], args := [] }

/-- 'zzlaws_decision_b1.FnByDateOrdersByCalendarDay': WHATEVER THE INPUT: true; the input reads as it did. -/
def fnByDateOrdersByCalendarDaySpec : ChangeSpec := { name := "fnByDateOrdersByCalendarDay", fn := fun _ => fun
  | [d1, d2, d3, d4] => { results := [.lit (.bool true)], args := [d1, d2, d3, d4] }
  | _ => none }
def fnByDateOrdersByCalendarDayRow : OpenClaim := { program := "qxb6617555a", sum := "dd5a99954014b1dd0b549737c39e82925dc2f417ba3c2a6918aa6332a77e1373", func := "example.com/carryover/carryover/zzlaws_decision_b1.FnByDateOrdersByCalendarDay", spec := "fnByDateOrdersByCalendarDay", inPlace := ["internal/bytealg.abigen_runtime_cmpstring"], apart := false }
def FnByDateOrdersByCalendarDaySaid : Prop := fnByDateOrdersByCalendarDayRow.holds Try.pinned (OpenSpec.ofChange fnByDateOrdersByCalendarDaySpec)

/-- ITS FALSE NEIGHBOUR: 'it returns false'. Refute it at one input. -/
def fnByDateOrdersByCalendarDayWrong : ChangeSpec := { name := "fnByDateOrdersByCalendarDay", fn := fun _ => fun
  | [d1, d2, d3, d4] => { results := [.lit (.bool false)], args := [d1, d2, d3, d4] }
  | _ => none }
def FnByDateOrdersByCalendarDayWrongFalsely : Prop := fnByDateOrdersByCalendarDayRow.holds Try.pinned (OpenSpec.ofChange fnByDateOrdersByCalendarDayWrong)

end Rows
end Go.Proofs.Qxb6617555a
