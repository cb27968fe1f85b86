/-
  No cell of these rows narrows 'for every input' (looked for: loops, veiled, ifaces, maps, wideKeys, modest, calm, conditions, laid).
  DERIVED. THE GIVEN ROWS OF THIS SEAT. 4 by the template 'for every input the law returns true; each argument reads behind the call as it read before'; 0 by the template 'total and deterministic' (their statements: Qxb6615174aTotals.lean).
  GIVEN WITH THE SEED: the statements are not yours to turn. If you find one false, say at which input.
  Laid BY PROGRAM, IN A SANDBOX (cutbox-rows.mjs): the forced cells as the released guide's own fill.sh prints them over the translation b5b40a811fc336ec… (all of the seat's roots in one cut). By AI agents, Wed Nov 11 2026. No macro, syntax, notation, axiom, sorry.
-/
import Derived.Test.Qxb6615174aChecked
import GoSem.Claim
import GoSem.ClaimJoined
import GoSem.ClaimMapViews
import Derived.JoinedTies
import Derived.KernelRfl
namespace Go.Proofs.Qxb6615174a
/- THE CELL 'sum', in the pinned program and in every row, IS THE sha256 OF THE DUMP (.gsa) THAT Qxb6615174aProg.lean LOADS. Nothing in Lean hashes anything: it is a label: what it is worth is what the hold of that sum in a sandbox is worth. -/
noncomputable def Try.pinned : Pinned := { name := "qxb6615174a", sum := "b5b40a811fc336ec9beb391cb27711eb70fc2e5f344963814f5ccae761764828", checked := Try.checked }
namespace Rows
def none {H : Type} : Left H := { results := [], args := [] }

/-- 'zzlaws_root_b1.FnDropFirstCutsAtAnyPlace': WHATEVER THE INPUT: true; the input reads as it did. -/
def fnDropFirstCutsAtAnyPlaceSpec : ChangeSpec := { name := "fnDropFirstCutsAtAnyPlace", fn := fun _ => fun
  | [d1, d2] => { results := [.lit (.bool true)], args := [d1, d2] }
  | _ => none }
def fnDropFirstCutsAtAnyPlaceRow : OpenClaim := { program := "qxb6615174a", sum := "b5b40a811fc336ec9beb391cb27711eb70fc2e5f344963814f5ccae761764828", func := "example.com/qiyas/qiyas/zzlaws_root_b1.FnDropFirstCutsAtAnyPlace", spec := "fnDropFirstCutsAtAnyPlace", apart := false }
def FnDropFirstCutsAtAnyPlaceSaid : Prop := fnDropFirstCutsAtAnyPlaceRow.holds Try.pinned (OpenSpec.ofChange fnDropFirstCutsAtAnyPlaceSpec)

/-- ITS FALSE NEIGHBOUR: 'it returns false'. Refute it at one input. -/
def fnDropFirstCutsAtAnyPlaceWrong : ChangeSpec := { name := "fnDropFirstCutsAtAnyPlace", fn := fun _ => fun
  | [d1, d2] => { results := [.lit (.bool false)], args := [d1, d2] }
  | _ => none }
def FnDropFirstCutsAtAnyPlaceWrongFalsely : Prop := fnDropFirstCutsAtAnyPlaceRow.holds Try.pinned (OpenSpec.ofChange fnDropFirstCutsAtAnyPlaceWrong)

/-- 'zzlaws_root_b1.FnDropFirstThriceIsDropThirdThenTwice': WHATEVER THE INPUT: true; the input reads as it did. -/
def fnDropFirstThriceIsDropThirdThenTwiceSpec : ChangeSpec := { name := "fnDropFirstThriceIsDropThirdThenTwice", fn := fun _ => fun
  | [d] => { results := [.lit (.bool true)], args := [d] }
  | _ => none }
def fnDropFirstThriceIsDropThirdThenTwiceRow : OpenClaim := { program := "qxb6615174a", sum := "b5b40a811fc336ec9beb391cb27711eb70fc2e5f344963814f5ccae761764828", func := "example.com/qiyas/qiyas/zzlaws_root_b1.FnDropFirstThriceIsDropThirdThenTwice", spec := "fnDropFirstThriceIsDropThirdThenTwice", apart := false }
def FnDropFirstThriceIsDropThirdThenTwiceSaid : Prop := fnDropFirstThriceIsDropThirdThenTwiceRow.holds Try.pinned (OpenSpec.ofChange fnDropFirstThriceIsDropThirdThenTwiceSpec)

/-- ITS FALSE NEIGHBOUR: 'it returns false'. Refute it at one input. -/
def fnDropFirstThriceIsDropThirdThenTwiceWrong : ChangeSpec := { name := "fnDropFirstThriceIsDropThirdThenTwice", fn := fun _ => fun
  | [d] => { results := [.lit (.bool false)], args := [d] }
  | _ => none }
def FnDropFirstThriceIsDropThirdThenTwiceWrongFalsely : Prop := fnDropFirstThriceIsDropThirdThenTwiceRow.holds Try.pinned (OpenSpec.ofChange fnDropFirstThriceIsDropThirdThenTwiceWrong)

/-- 'zzlaws_root_b1.FnDropThirdKeepsTwoThenDropsFirst': WHATEVER THE INPUT: true; the input reads as it did. -/
def fnDropThirdKeepsTwoThenDropsFirstSpec : ChangeSpec := { name := "fnDropThirdKeepsTwoThenDropsFirst", fn := fun _ => fun
  | [d] => { results := [.lit (.bool true)], args := [d] }
  | _ => none }
def fnDropThirdKeepsTwoThenDropsFirstRow : OpenClaim := { program := "qxb6615174a", sum := "b5b40a811fc336ec9beb391cb27711eb70fc2e5f344963814f5ccae761764828", func := "example.com/qiyas/qiyas/zzlaws_root_b1.FnDropThirdKeepsTwoThenDropsFirst", spec := "fnDropThirdKeepsTwoThenDropsFirst", apart := false }
def FnDropThirdKeepsTwoThenDropsFirstSaid : Prop := fnDropThirdKeepsTwoThenDropsFirstRow.holds Try.pinned (OpenSpec.ofChange fnDropThirdKeepsTwoThenDropsFirstSpec)

/-- ITS FALSE NEIGHBOUR: 'it returns false'. Refute it at one input. -/
def fnDropThirdKeepsTwoThenDropsFirstWrong : ChangeSpec := { name := "fnDropThirdKeepsTwoThenDropsFirst", fn := fun _ => fun
  | [d] => { results := [.lit (.bool false)], args := [d] }
  | _ => none }
def FnDropThirdKeepsTwoThenDropsFirstWrongFalsely : Prop := fnDropThirdKeepsTwoThenDropsFirstRow.holds Try.pinned (OpenSpec.ofChange fnDropThirdKeepsTwoThenDropsFirstWrong)

/-- 'zzlaws_root_b1.FnDropThirdLeavesAnyTail': WHATEVER THE INPUT: true; the input reads as it did. -/
def fnDropThirdLeavesAnyTailSpec : ChangeSpec := { name := "fnDropThirdLeavesAnyTail", fn := fun _ => fun
  | [d1, d2] => { results := [.lit (.bool true)], args := [d1, d2] }
  | _ => none }
def fnDropThirdLeavesAnyTailRow : OpenClaim := { program := "qxb6615174a", sum := "b5b40a811fc336ec9beb391cb27711eb70fc2e5f344963814f5ccae761764828", func := "example.com/qiyas/qiyas/zzlaws_root_b1.FnDropThirdLeavesAnyTail", spec := "fnDropThirdLeavesAnyTail", apart := false }
def FnDropThirdLeavesAnyTailSaid : Prop := fnDropThirdLeavesAnyTailRow.holds Try.pinned (OpenSpec.ofChange fnDropThirdLeavesAnyTailSpec)

/-- ITS FALSE NEIGHBOUR: 'it returns false'. Refute it at one input. -/
def fnDropThirdLeavesAnyTailWrong : ChangeSpec := { name := "fnDropThirdLeavesAnyTail", fn := fun _ => fun
  | [d1, d2] => { results := [.lit (.bool false)], args := [d1, d2] }
  | _ => none }
def FnDropThirdLeavesAnyTailWrongFalsely : Prop := fnDropThirdLeavesAnyTailRow.holds Try.pinned (OpenSpec.ofChange fnDropThirdLeavesAnyTailWrong)

end Rows
end Go.Proofs.Qxb6615174a
