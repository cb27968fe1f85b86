/-
  No cell of these rows narrows 'for every input' (looked for: loops, veiled, ifaces, maps, wideKeys, modest, calm, conditions, laid).
  DERIVED. THE GIVEN ROWS OF THIS SEAT. 2 by the template 'for every input the law returns true; each argument reads behind the call as it read before'; 0 by the template 'total and deterministic' (their statements: Qxb6615155aTotals.lean).
  GIVEN WITH THE SEED: the statements are not yours to turn. If you find one false, say at which input.
  Laid BY PROGRAM, IN A SANDBOX (cutbox-rows.mjs): the forced cells as the released guide's own fill.sh prints them over the translation b886b3c7662ddb0b… (all of the seat's roots in one cut). By AI agents, Wed Nov 11 2026. No macro, syntax, notation, axiom, sorry.
-/
import Derived.Test.Qxb6615155aChecked
import GoSem.Claim
import GoSem.ClaimJoined
import GoSem.ClaimMapViews
import Derived.JoinedTies
import Derived.KernelRfl
namespace Go.Proofs.Qxb6615155a
/- THE CELL 'sum', in the pinned program and in every row, IS THE sha256 OF THE DUMP (.gsa) THAT Qxb6615155aProg.lean LOADS. Nothing in Lean hashes anything: it is a label: what it is worth is what the hold of that sum in a sandbox is worth. -/
noncomputable def Try.pinned : Pinned := { name := "qxb6615155a", sum := "b886b3c7662ddb0bdd299b9ab880dd47400e137e4d40b8a11300365a504fa98a", checked := Try.checked }
namespace Rows
def none {H : Type} : Left H := { results := [], args := [] }

/-- 'zzlaws_internal_command_b1.FnStepsAtShiftsAdditively': WHATEVER THE INPUT: true; the input reads as it did. -/
def fnStepsAtShiftsAdditivelySpec : ChangeSpec := { name := "fnStepsAtShiftsAdditively", fn := fun _ => fun
  | [d1, d2, d3, d4, d5] => { results := [.lit (.bool true)], args := [d1, d2, d3, d4, d5] }
  | _ => none }
def fnStepsAtShiftsAdditivelyRow : OpenClaim := { program := "qxb6615155a", sum := "b886b3c7662ddb0bdd299b9ab880dd47400e137e4d40b8a11300365a504fa98a", func := "example.com/vestline/vestline/zzlaws_internal_command_b1.FnStepsAtShiftsAdditively", spec := "fnStepsAtShiftsAdditively", apart := false }
def FnStepsAtShiftsAdditivelySaid : Prop := fnStepsAtShiftsAdditivelyRow.holds Try.pinned (OpenSpec.ofChange fnStepsAtShiftsAdditivelySpec)

/-- ITS FALSE NEIGHBOUR: 'it returns false'. Refute it at one input. -/
def fnStepsAtShiftsAdditivelyWrong : ChangeSpec := { name := "fnStepsAtShiftsAdditively", fn := fun _ => fun
  | [d1, d2, d3, d4, d5] => { results := [.lit (.bool false)], args := [d1, d2, d3, d4, d5] }
  | _ => none }
def FnStepsAtShiftsAdditivelyWrongFalsely : Prop := fnStepsAtShiftsAdditivelyRow.holds Try.pinned (OpenSpec.ofChange fnStepsAtShiftsAdditivelyWrong)

/-- 'zzlaws_internal_command_b1.FnStepsAtRestartsAtAnyFigure': WHATEVER THE INPUT: true; the input reads as it did. -/
def fnStepsAtRestartsAtAnyFigureSpec : ChangeSpec := { name := "fnStepsAtRestartsAtAnyFigure", fn := fun _ => fun
  | [d1, d2, d3, d4, d5] => { results := [.lit (.bool true)], args := [d1, d2, d3, d4, d5] }
  | _ => none }
def fnStepsAtRestartsAtAnyFigureRow : OpenClaim := { program := "qxb6615155a", sum := "b886b3c7662ddb0bdd299b9ab880dd47400e137e4d40b8a11300365a504fa98a", func := "example.com/vestline/vestline/zzlaws_internal_command_b1.FnStepsAtRestartsAtAnyFigure", spec := "fnStepsAtRestartsAtAnyFigure", apart := false }
def FnStepsAtRestartsAtAnyFigureSaid : Prop := fnStepsAtRestartsAtAnyFigureRow.holds Try.pinned (OpenSpec.ofChange fnStepsAtRestartsAtAnyFigureSpec)

/-- ITS FALSE NEIGHBOUR: 'it returns false'. Refute it at one input. -/
def fnStepsAtRestartsAtAnyFigureWrong : ChangeSpec := { name := "fnStepsAtRestartsAtAnyFigure", fn := fun _ => fun
  | [d1, d2, d3, d4, d5] => { results := [.lit (.bool false)], args := [d1, d2, d3, d4, d5] }
  | _ => none }
def FnStepsAtRestartsAtAnyFigureWrongFalsely : Prop := fnStepsAtRestartsAtAnyFigureRow.holds Try.pinned (OpenSpec.ofChange fnStepsAtRestartsAtAnyFigureWrong)

end Rows
end Go.Proofs.Qxb6615155a
