/-
  No cell of these rows narrows 'for every input' (looked for: loops, veiled, ifaces, maps, wideKeys, modest, calm, conditions, laid).
  DERIVED. THE GIVEN ROWS OF THIS SEAT. 3 by the template 'for every input the law returns true; each argument reads behind the call as it read before'; 0 by the template 'total and deterministic' (their statements: Qxb6602523aTotals.lean).
  GIVEN WITH THE SEED: the statements are not yours to turn. If you find one false, say at which input.
  Laid BY PROGRAM, IN A SANDBOX (cutbox-rows.mjs): the forced cells as the released guide's own fill.sh prints them over the translation 36e061ea5309597c… (all of the seat's roots in one cut). By AI agents, Wed Nov 11 2026. No macro, syntax, notation, axiom, sorry.
-/
import Derived.Test.Qxb6602523aChecked
import GoSem.Claim
import GoSem.ClaimJoined
import GoSem.ClaimMapViews
import Derived.JoinedTies
import Derived.KernelRfl
namespace Go.Proofs.Qxb6602523a
/- THE CELL 'sum', in the pinned program and in every row, IS THE sha256 OF THE DUMP (.gsa) THAT Qxb6602523aProg.lean LOADS. Nothing in Lean hashes anything: it is a label: what it is worth is what the hold of that sum in a sandbox is worth. -/
noncomputable def Try.pinned : Pinned := { name := "qxb6602523a", sum := "36e061ea5309597c9f422c9a510a925ac3029af9433614e7bad341cf45baa80c", checked := Try.checked }
namespace Rows
def none {H : Type} : Left H := { results := [], args := [] }

/-- 'zzlaws_mustache_b1.FnAddTextSplitsIntoLines': WHATEVER THE INPUT: true; the input reads as it did. -/
def fnAddTextSplitsIntoLinesSpec : ChangeSpec := { name := "fnAddTextSplitsIntoLines", fn := fun _ => fun
  | [d1, d2, d3] => { results := [.lit (.bool true)], args := [d1, d2, d3] }
  | _ => none }
def fnAddTextSplitsIntoLinesRow : OpenClaim := { program := "qxb6602523a", sum := "36e061ea5309597c9f422c9a510a925ac3029af9433614e7bad341cf45baa80c", func := "example.com/evenkeel/evenkeel/zzlaws_mustache_b1.FnAddTextSplitsIntoLines", spec := "fnAddTextSplitsIntoLines", inPlace := ["internal/bytealg.IndexByteString"], apart := false }
def FnAddTextSplitsIntoLinesSaid : Prop := fnAddTextSplitsIntoLinesRow.holds Try.pinned (OpenSpec.ofChange fnAddTextSplitsIntoLinesSpec)

/-- ITS FALSE NEIGHBOUR: 'it returns false'. Refute it at one input. -/
def fnAddTextSplitsIntoLinesWrong : ChangeSpec := { name := "fnAddTextSplitsIntoLines", fn := fun _ => fun
  | [d1, d2, d3] => { results := [.lit (.bool false)], args := [d1, d2, d3] }
  | _ => none }
def FnAddTextSplitsIntoLinesWrongFalsely : Prop := fnAddTextSplitsIntoLinesRow.holds Try.pinned (OpenSpec.ofChange fnAddTextSplitsIntoLinesWrong)

/-- 'zzlaws_mustache_b1.FnAddTextSplitAnywhere': WHATEVER THE INPUT: true; the input reads as it did. -/
def fnAddTextSplitAnywhereSpec : ChangeSpec := { name := "fnAddTextSplitAnywhere", fn := fun _ => fun
  | [d1, d2, d3] => { results := [.lit (.bool true)], args := [d1, d2, d3] }
  | _ => none }
def fnAddTextSplitAnywhereRow : OpenClaim := { program := "qxb6602523a", sum := "36e061ea5309597c9f422c9a510a925ac3029af9433614e7bad341cf45baa80c", func := "example.com/evenkeel/evenkeel/zzlaws_mustache_b1.FnAddTextSplitAnywhere", spec := "fnAddTextSplitAnywhere", inPlace := ["internal/bytealg.IndexByteString"], apart := false }
def FnAddTextSplitAnywhereSaid : Prop := fnAddTextSplitAnywhereRow.holds Try.pinned (OpenSpec.ofChange fnAddTextSplitAnywhereSpec)

/-- ITS FALSE NEIGHBOUR: 'it returns false'. Refute it at one input. -/
def fnAddTextSplitAnywhereWrong : ChangeSpec := { name := "fnAddTextSplitAnywhere", fn := fun _ => fun
  | [d1, d2, d3] => { results := [.lit (.bool false)], args := [d1, d2, d3] }
  | _ => none }
def FnAddTextSplitAnywhereWrongFalsely : Prop := fnAddTextSplitAnywhereRow.holds Try.pinned (OpenSpec.ofChange fnAddTextSplitAnywhereWrong)

/-- 'zzlaws_mustache_b1.FnMarkBeforeTextChangesNothing': WHATEVER THE INPUT: true; the input reads as it did. -/
def fnMarkBeforeTextChangesNothingSpec : ChangeSpec := { name := "fnMarkBeforeTextChangesNothing", fn := fun _ => fun
  | [d1, d2] => { results := [.lit (.bool true)], args := [d1, d2] }
  | _ => none }
def fnMarkBeforeTextChangesNothingRow : OpenClaim := { program := "qxb6602523a", sum := "36e061ea5309597c9f422c9a510a925ac3029af9433614e7bad341cf45baa80c", func := "example.com/evenkeel/evenkeel/zzlaws_mustache_b1.FnMarkBeforeTextChangesNothing", spec := "fnMarkBeforeTextChangesNothing", inPlace := ["internal/bytealg.IndexByteString"], apart := false }
def FnMarkBeforeTextChangesNothingSaid : Prop := fnMarkBeforeTextChangesNothingRow.holds Try.pinned (OpenSpec.ofChange fnMarkBeforeTextChangesNothingSpec)

/-- ITS FALSE NEIGHBOUR: 'it returns false'. Refute it at one input. -/
def fnMarkBeforeTextChangesNothingWrong : ChangeSpec := { name := "fnMarkBeforeTextChangesNothing", fn := fun _ => fun
  | [d1, d2] => { results := [.lit (.bool false)], args := [d1, d2] }
  | _ => none }
def FnMarkBeforeTextChangesNothingWrongFalsely : Prop := fnMarkBeforeTextChangesNothingRow.holds Try.pinned (OpenSpec.ofChange fnMarkBeforeTextChangesNothingWrong)

end Rows
end Go.Proofs.Qxb6602523a
