/-
  No cell of these rows narrows 'for every input' (looked for: loops, veiled, ifaces, maps, wideKeys, modest, calm, conditions, laid).
  DERIVED. THE GIVEN ROWS OF THIS SEAT. 2 by the template 'for every input the law returns true; each argument reads behind the call as it read before'; 0 by the template 'total and deterministic' (their statements: Qxb6619032aTotals.lean).
  GIVEN WITH THE SEED: the statements are not yours to turn. If you find one false, say at which input.
  Laid BY PROGRAM, IN A SANDBOX (cutbox-rows.mjs): the forced cells as the released guide's own fill.sh prints them over the translation 47f9018eef78bdea… (all of the seat's roots in one cut). By AI agents, Wed Nov 11 2026. No macro, syntax, notation, axiom, sorry.
-/
import Derived.Test.Qxb6619032aChecked
import GoSem.Claim
import GoSem.ClaimJoined
import GoSem.ClaimMapViews
import Derived.JoinedTies
import Derived.KernelRfl
namespace Go.Proofs.Qxb6619032a
/- THE CELL 'sum', in the pinned program and in every row, IS THE sha256 OF THE DUMP (.gsa) THAT Qxb6619032aProg.lean LOADS. Nothing in Lean hashes anything: it is a label: what it is worth is what the hold of that sum in a sandbox is worth. -/
noncomputable def Try.pinned : Pinned := { name := "qxb6619032a", sum := "47f9018eef78bdea9a49218d14e9e4e7b28e9d07ea006bb5c267c6612c1f8bad", checked := Try.checked }
namespace Rows
def none {H : Type} : Left H := { results := [], args := [] }

/-- 'zzlaws_root_b1.FnAddTextJoinsAtAnyCut': WHATEVER THE INPUT: true; the input reads as it did. -/
def fnAddTextJoinsAtAnyCutSpec : ChangeSpec := { name := "fnAddTextJoinsAtAnyCut", fn := fun _ => fun
  | [d1, d2, d3, d4, d5, d6, d7] => { results := [.lit (.bool true)], args := [d1, d2, d3, d4, d5, d6, d7] }
  | _ => none }
def fnAddTextJoinsAtAnyCutRow : OpenClaim := { program := "qxb6619032a", sum := "47f9018eef78bdea9a49218d14e9e4e7b28e9d07ea006bb5c267c6612c1f8bad", func := "example.com/kempt-config/kempt-config/zzlaws_root_b1.FnAddTextJoinsAtAnyCut", spec := "fnAddTextJoinsAtAnyCut", apart := false }
def FnAddTextJoinsAtAnyCutSaid : Prop := fnAddTextJoinsAtAnyCutRow.holds Try.pinned (OpenSpec.ofChange fnAddTextJoinsAtAnyCutSpec)

/-- ITS FALSE NEIGHBOUR: 'it returns false'. Refute it at one input. -/
def fnAddTextJoinsAtAnyCutWrong : ChangeSpec := { name := "fnAddTextJoinsAtAnyCut", fn := fun _ => fun
  | [d1, d2, d3, d4, d5, d6, d7] => { results := [.lit (.bool false)], args := [d1, d2, d3, d4, d5, d6, d7] }
  | _ => none }
def FnAddTextJoinsAtAnyCutWrongFalsely : Prop := fnAddTextJoinsAtAnyCutRow.holds Try.pinned (OpenSpec.ofChange fnAddTextJoinsAtAnyCutWrong)

/-- 'zzlaws_root_b1.FnAddTextScriptOrderFree': WHATEVER THE INPUT: true; the input reads as it did. -/
def fnAddTextScriptOrderFreeSpec : ChangeSpec := { name := "fnAddTextScriptOrderFree", fn := fun _ => fun
  | [d1, d2, d3, d4, d5, d6] => { results := [.lit (.bool true)], args := [d1, d2, d3, d4, d5, d6] }
  | _ => none }
def fnAddTextScriptOrderFreeRow : OpenClaim := { program := "qxb6619032a", sum := "47f9018eef78bdea9a49218d14e9e4e7b28e9d07ea006bb5c267c6612c1f8bad", func := "example.com/kempt-config/kempt-config/zzlaws_root_b1.FnAddTextScriptOrderFree", spec := "fnAddTextScriptOrderFree", apart := false }
def FnAddTextScriptOrderFreeSaid : Prop := fnAddTextScriptOrderFreeRow.holds Try.pinned (OpenSpec.ofChange fnAddTextScriptOrderFreeSpec)

/-- ITS FALSE NEIGHBOUR: 'it returns false'. Refute it at one input. -/
def fnAddTextScriptOrderFreeWrong : ChangeSpec := { name := "fnAddTextScriptOrderFree", fn := fun _ => fun
  | [d1, d2, d3, d4, d5, d6] => { results := [.lit (.bool false)], args := [d1, d2, d3, d4, d5, d6] }
  | _ => none }
def FnAddTextScriptOrderFreeWrongFalsely : Prop := fnAddTextScriptOrderFreeRow.holds Try.pinned (OpenSpec.ofChange fnAddTextScriptOrderFreeWrong)

end Rows
end Go.Proofs.Qxb6619032a
