/-
  No cell of these rows narrows 'for every input' (looked for: loops, veiled, ifaces, maps, wideKeys, modest, calm, conditions, laid).
  DERIVED. THE GIVEN ROWS OF THIS SEAT. 2 by the template 'for every input the law returns true; each argument reads behind the call as it read before'; 0 by the template 'total and deterministic' (their statements: Qxb6615175aTotals.lean).
  GIVEN WITH THE SEED: the statements are not yours to turn. If you find one false, say at which input.
  Laid BY PROGRAM, IN A SANDBOX (cutbox-rows.mjs): the forced cells as the released guide's own fill.sh prints them over the translation d1995d83013b4e6f… (all of the seat's roots in one cut). By AI agents, Wed Nov 11 2026. No macro, syntax, notation, axiom, sorry.
-/
import Derived.Test.Qxb6615175aChecked
import GoSem.Claim
import GoSem.ClaimJoined
import GoSem.ClaimMapViews
import Derived.JoinedTies
import Derived.KernelRfl
namespace Go.Proofs.Qxb6615175a
/- THE CELL 'sum', in the pinned program and in every row, IS THE sha256 OF THE DUMP (.gsa) THAT Qxb6615175aProg.lean LOADS. Nothing in Lean hashes anything: it is a label: what it is worth is what the hold of that sum in a sandbox is worth. -/
noncomputable def Try.pinned : Pinned := { name := "qxb6615175a", sum := "d1995d83013b4e6f1803a2f45f2f0932c87b5833377f0de85c2421f25e0e6c8a", checked := Try.checked }
namespace Rows
def none {H : Type} : Left H := { results := [], args := [] }

/-- 'zzlaws_internal_davclient_b1.FnChunkedSplitCostsOneTrailer': WHATEVER THE INPUT: true; the input reads as it did. -/
def fnChunkedSplitCostsOneTrailerSpec : ChangeSpec := { name := "fnChunkedSplitCostsOneTrailer", fn := fun _ => fun
  | [d1, d2] => { results := [.lit (.bool true)], args := [d1, d2] }
  | _ => none }
def fnChunkedSplitCostsOneTrailerRow : OpenClaim := { program := "qxb6615175a", sum := "d1995d83013b4e6f1803a2f45f2f0932c87b5833377f0de85c2421f25e0e6c8a", func := "example.com/haversack/haversack/zzlaws_internal_davclient_b1.FnChunkedSplitCostsOneTrailer", spec := "fnChunkedSplitCostsOneTrailer", apart := false }
def FnChunkedSplitCostsOneTrailerSaid : Prop := fnChunkedSplitCostsOneTrailerRow.holds Try.pinned (OpenSpec.ofChange fnChunkedSplitCostsOneTrailerSpec)

/-- ITS FALSE NEIGHBOUR: 'it returns false'. Refute it at one input. -/
def fnChunkedSplitCostsOneTrailerWrong : ChangeSpec := { name := "fnChunkedSplitCostsOneTrailer", fn := fun _ => fun
  | [d1, d2] => { results := [.lit (.bool false)], args := [d1, d2] }
  | _ => none }
def FnChunkedSplitCostsOneTrailerWrongFalsely : Prop := fnChunkedSplitCostsOneTrailerRow.holds Try.pinned (OpenSpec.ofChange fnChunkedSplitCostsOneTrailerWrong)

/-- 'zzlaws_internal_davclient_b1.FnChunkedGrowsByteByByte': WHATEVER THE INPUT: true; the input reads as it did. -/
def fnChunkedGrowsByteByByteSpec : ChangeSpec := { name := "fnChunkedGrowsByteByByte", fn := fun _ => fun
  | [d] => { results := [.lit (.bool true)], args := [d] }
  | _ => none }
def fnChunkedGrowsByteByByteRow : OpenClaim := { program := "qxb6615175a", sum := "d1995d83013b4e6f1803a2f45f2f0932c87b5833377f0de85c2421f25e0e6c8a", func := "example.com/haversack/haversack/zzlaws_internal_davclient_b1.FnChunkedGrowsByteByByte", spec := "fnChunkedGrowsByteByByte", apart := false }
def FnChunkedGrowsByteByByteSaid : Prop := fnChunkedGrowsByteByByteRow.holds Try.pinned (OpenSpec.ofChange fnChunkedGrowsByteByByteSpec)

/-- ITS FALSE NEIGHBOUR: 'it returns false'. Refute it at one input. -/
def fnChunkedGrowsByteByByteWrong : ChangeSpec := { name := "fnChunkedGrowsByteByByte", fn := fun _ => fun
  | [d] => { results := [.lit (.bool false)], args := [d] }
  | _ => none }
def FnChunkedGrowsByteByByteWrongFalsely : Prop := fnChunkedGrowsByteByByteRow.holds Try.pinned (OpenSpec.ofChange fnChunkedGrowsByteByByteWrong)

end Rows
end Go.Proofs.Qxb6615175a
