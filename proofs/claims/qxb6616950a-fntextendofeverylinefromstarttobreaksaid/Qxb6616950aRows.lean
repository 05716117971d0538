/-
  No cell of these rows narrows 'for every input' (looked for: loops, veiled, ifaces, maps, wideKeys, modest, calm, conditions, laid).
  DERIVED. THE GIVEN ROWS OF THIS SEAT. 2 by the template 'for every input the law returns true; each argument reads behind the call as it read before'; 0 by the template 'total and deterministic' (their statements: Qxb6616950aTotals.lean).
  GIVEN WITH THE SEED: the statements are not yours to turn. If you find one false, say at which input.
  Laid BY PROGRAM, IN A SANDBOX (cutbox-rows.mjs): the forced cells as the released guide's own fill.sh prints them over the translation f1f8bb6b03de3484… (all of the seat's roots in one cut). By AI agents, Wed Nov 11 2026. No macro, syntax, notation, axiom, sorry.
-/
import Derived.Test.Qxb6616950aChecked
import GoSem.Claim
import GoSem.ClaimJoined
import GoSem.ClaimMapViews
import Derived.JoinedTies
import Derived.KernelRfl
namespace Go.Proofs.Qxb6616950a
/- THE CELL 'sum', in the pinned program and in every row, IS THE sha256 OF THE DUMP (.gsa) THAT Qxb6616950aProg.lean LOADS. Nothing in Lean hashes anything: it is a label: what it is worth is what the hold of that sum in a sandbox is worth. -/
noncomputable def Try.pinned : Pinned := { name := "qxb6616950a", sum := "f1f8bb6b03de3484d5917a2c9113fc615aae72e4d428e7bc60ee68805340d86b", checked := Try.checked }
namespace Rows
def none {H : Type} : Left H := { results := [], args := [] }

/-- 'zzlaws_internal_kubeconfig_b1.FnTextEndIsEndOfLineHoldingAt': WHATEVER THE INPUT: true; the input reads as it did. -/
def fnTextEndIsEndOfLineHoldingAtSpec : ChangeSpec := { name := "fnTextEndIsEndOfLineHoldingAt", fn := fun _ => fun
  | [d1, d2] => { results := [.lit (.bool true)], args := [d1, d2] }
  | _ => none }
def fnTextEndIsEndOfLineHoldingAtRow : OpenClaim := { program := "qxb6616950a", sum := "f1f8bb6b03de3484d5917a2c9113fc615aae72e4d428e7bc60ee68805340d86b", func := "example.com/rudderbook/rudderbook/zzlaws_internal_kubeconfig_b1.FnTextEndIsEndOfLineHoldingAt", spec := "fnTextEndIsEndOfLineHoldingAt", unfollowed := true, recurses := true, apart := false }
def FnTextEndIsEndOfLineHoldingAtSaid : Prop := fnTextEndIsEndOfLineHoldingAtRow.holds Try.pinned (OpenSpec.ofChange fnTextEndIsEndOfLineHoldingAtSpec)

/-- ITS FALSE NEIGHBOUR: 'it returns false'. Refute it at one input. -/
def fnTextEndIsEndOfLineHoldingAtWrong : ChangeSpec := { name := "fnTextEndIsEndOfLineHoldingAt", fn := fun _ => fun
  | [d1, d2] => { results := [.lit (.bool false)], args := [d1, d2] }
  | _ => none }
def FnTextEndIsEndOfLineHoldingAtWrongFalsely : Prop := fnTextEndIsEndOfLineHoldingAtRow.holds Try.pinned (OpenSpec.ofChange fnTextEndIsEndOfLineHoldingAtWrong)

/-- 'zzlaws_internal_kubeconfig_b1.FnTextEndOfEveryLineFromStartToBreak': WHATEVER THE INPUT: true; the input reads as it did. -/
def fnTextEndOfEveryLineFromStartToBreakSpec : ChangeSpec := { name := "fnTextEndOfEveryLineFromStartToBreak", fn := fun _ => fun
  | [d] => { results := [.lit (.bool true)], args := [d] }
  | _ => none }
def fnTextEndOfEveryLineFromStartToBreakRow : OpenClaim := { program := "qxb6616950a", sum := "f1f8bb6b03de3484d5917a2c9113fc615aae72e4d428e7bc60ee68805340d86b", func := "example.com/rudderbook/rudderbook/zzlaws_internal_kubeconfig_b1.FnTextEndOfEveryLineFromStartToBreak", spec := "fnTextEndOfEveryLineFromStartToBreak", unfollowed := true, recurses := true, apart := false }
def FnTextEndOfEveryLineFromStartToBreakSaid : Prop := fnTextEndOfEveryLineFromStartToBreakRow.holds Try.pinned (OpenSpec.ofChange fnTextEndOfEveryLineFromStartToBreakSpec)

/-- ITS FALSE NEIGHBOUR: 'it returns false'. Refute it at one input. -/
def fnTextEndOfEveryLineFromStartToBreakWrong : ChangeSpec := { name := "fnTextEndOfEveryLineFromStartToBreak", fn := fun _ => fun
  | [d] => { results := [.lit (.bool false)], args := [d] }
  | _ => none }
def FnTextEndOfEveryLineFromStartToBreakWrongFalsely : Prop := fnTextEndOfEveryLineFromStartToBreakRow.holds Try.pinned (OpenSpec.ofChange fnTextEndOfEveryLineFromStartToBreakWrong)

end Rows
end Go.Proofs.Qxb6616950a
