/-
  No cell of these rows narrows 'for every input' (looked for: loops, veiled, ifaces, maps, wideKeys, modest, calm, conditions, laid).
  DERIVED. THE GIVEN ROWS OF THIS SEAT. 2 by the template 'for every input the law returns true; each argument reads behind the call as it read before'; 0 by the template 'total and deterministic' (their statements: Qxb6617022aTotals.lean).
  GIVEN WITH THE SEED: the statements are not yours to turn. If you find one false, say at which input.
  Laid BY PROGRAM, IN A SANDBOX (cutbox-rows.mjs): the forced cells as the released guide's own fill.sh prints them over the translation 6c1462edf83a4a8f… (all of the seat's roots in one cut). By AI agents, Wed Nov 11 2026. No macro, syntax, notation, axiom, sorry.
-/
import Derived.Test.Qxb6617022aChecked
import GoSem.Claim
import GoSem.ClaimJoined
import GoSem.ClaimMapViews
import Derived.JoinedTies
import Derived.KernelRfl
namespace Go.Proofs.Qxb6617022a
/- THE CELL 'sum', in the pinned program and in every row, IS THE sha256 OF THE DUMP (.gsa) THAT Qxb6617022aProg.lean LOADS. Nothing in Lean hashes anything: it is a label: what it is worth is what the hold of that sum in a sandbox is worth. -/
noncomputable def Try.pinned : Pinned := { name := "qxb6617022a", sum := "6c1462edf83a4a8f21472d34bcf7997d9236393113f58b254823ceead1b456d5", checked := Try.checked }
namespace Rows
def none {H : Type} : Left H := { results := [], args := [] }

/-- 'zzlaws_schema_b1.FnIntInt64AgreesWithItsFloat': WHATEVER THE INPUT: true; the input reads as it did. -/
def fnIntInt64AgreesWithItsFloatSpec : ChangeSpec := { name := "fnIntInt64AgreesWithItsFloat", fn := fun _ => fun
  | [d] => { results := [.lit (.bool true)], args := [d] }
  | _ => none }
def fnIntInt64AgreesWithItsFloatRow : OpenClaim := { program := "qxb6617022a", sum := "6c1462edf83a4a8f21472d34bcf7997d9236393113f58b254823ceead1b456d5", func := "example.com/kindwright/kindwright/zzlaws_schema_b1.FnIntInt64AgreesWithItsFloat", spec := "fnIntInt64AgreesWithItsFloat", inPlace := ["math.archTrunc", "math.Float64bits", "math.Float64frombits"], apart := false }
def FnIntInt64AgreesWithItsFloatSaid : Prop := fnIntInt64AgreesWithItsFloatRow.holds Try.pinned (OpenSpec.ofChange fnIntInt64AgreesWithItsFloatSpec)

/-- ITS FALSE NEIGHBOUR: 'it returns false'. Refute it at one input. -/
def fnIntInt64AgreesWithItsFloatWrong : ChangeSpec := { name := "fnIntInt64AgreesWithItsFloat", fn := fun _ => fun
  | [d] => { results := [.lit (.bool false)], args := [d] }
  | _ => none }
def FnIntInt64AgreesWithItsFloatWrongFalsely : Prop := fnIntInt64AgreesWithItsFloatRow.holds Try.pinned (OpenSpec.ofChange fnIntInt64AgreesWithItsFloatWrong)

/-- 'zzlaws_schema_b1.FnIntNegationSymmetric': WHATEVER THE INPUT: true; the input reads as it did. -/
def fnIntNegationSymmetricSpec : ChangeSpec := { name := "fnIntNegationSymmetric", fn := fun _ => fun
  | [d] => { results := [.lit (.bool true)], args := [d] }
  | _ => none }
def fnIntNegationSymmetricRow : OpenClaim := { program := "qxb6617022a", sum := "6c1462edf83a4a8f21472d34bcf7997d9236393113f58b254823ceead1b456d5", func := "example.com/kindwright/kindwright/zzlaws_schema_b1.FnIntNegationSymmetric", spec := "fnIntNegationSymmetric", inPlace := ["math.archTrunc", "math.Float64bits", "math.Float64frombits"], apart := false }
def FnIntNegationSymmetricSaid : Prop := fnIntNegationSymmetricRow.holds Try.pinned (OpenSpec.ofChange fnIntNegationSymmetricSpec)

/-- ITS FALSE NEIGHBOUR: 'it returns false'. Refute it at one input. -/
def fnIntNegationSymmetricWrong : ChangeSpec := { name := "fnIntNegationSymmetric", fn := fun _ => fun
  | [d] => { results := [.lit (.bool false)], args := [d] }
  | _ => none }
def FnIntNegationSymmetricWrongFalsely : Prop := fnIntNegationSymmetricRow.holds Try.pinned (OpenSpec.ofChange fnIntNegationSymmetricWrong)

end Rows
end Go.Proofs.Qxb6617022a
