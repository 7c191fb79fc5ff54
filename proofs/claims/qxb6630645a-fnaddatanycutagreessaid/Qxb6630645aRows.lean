/-
  No cell of these rows narrows 'for every input' (looked for: loops, veiled, ifaces, maps, wideKeys, modest, calm, conditions, laid).
  DERIVED. THE GIVEN ROWS OF THIS SEAT. 2 by the template 'for every input the law returns true; each argument reads behind the call as it read before'; 0 by the template 'total and deterministic' (their statements: Qxb6630645aTotals.lean).
  GIVEN WITH THE SEED: the statements are not yours to turn. If you find one false, say at which input.
  Laid BY PROGRAM, IN A SANDBOX (cutbox-rows.mjs): the forced cells as the released guide's own fill.sh prints them over the translation 3dbc5bde7b79d266… (all of the seat's roots in one cut). By AI agents, Wed Nov 11 2026. No macro, syntax, notation, axiom, sorry.
-/
import Derived.Test.Qxb6630645aChecked
import GoSem.Claim
import GoSem.ClaimJoined
import GoSem.ClaimMapViews
import Derived.JoinedTies
import Derived.KernelRfl
namespace Go.Proofs.Qxb6630645a
/- THE CELL 'sum', in the pinned program and in every row, IS THE sha256 OF THE DUMP (.gsa) THAT Qxb6630645aProg.lean LOADS. Nothing in Lean hashes anything: it is a label: what it is worth is what the hold of that sum in a sandbox is worth. -/
noncomputable def Try.pinned : Pinned := { name := "qxb6630645a", sum := "3dbc5bde7b79d26638727e6017caa5111d5a13517c9d018cf6d5a024f7cd5817", checked := Try.checked }
namespace Rows
def none {H : Type} : Left H := { results := [], args := [] }

/-- 'zzlaws_internal_report_b1.FnAddScriptMatchesModel': WHATEVER THE INPUT: true; the input reads as it did. -/
def fnAddScriptMatchesModelSpec : ChangeSpec := { name := "fnAddScriptMatchesModel", fn := fun _ => fun
  | [d1, d2, d3, d4, d5, d6] => { results := [.lit (.bool true)], args := [d1, d2, d3, d4, d5, d6] }
  | _ => none }
def fnAddScriptMatchesModelRow : OpenClaim := { program := "qxb6630645a", sum := "3dbc5bde7b79d26638727e6017caa5111d5a13517c9d018cf6d5a024f7cd5817", func := "example.com/asmexpect/asmexpect/zzlaws_internal_report_b1.FnAddScriptMatchesModel", spec := "fnAddScriptMatchesModel", apart := false }
def FnAddScriptMatchesModelSaid : Prop := fnAddScriptMatchesModelRow.holds Try.pinned (OpenSpec.ofChange fnAddScriptMatchesModelSpec)

/-- ITS FALSE NEIGHBOUR: 'it returns false'. Refute it at one input. -/
def fnAddScriptMatchesModelWrong : ChangeSpec := { name := "fnAddScriptMatchesModel", fn := fun _ => fun
  | [d1, d2, d3, d4, d5, d6] => { results := [.lit (.bool false)], args := [d1, d2, d3, d4, d5, d6] }
  | _ => none }
def FnAddScriptMatchesModelWrongFalsely : Prop := fnAddScriptMatchesModelRow.holds Try.pinned (OpenSpec.ofChange fnAddScriptMatchesModelWrong)

/-- 'zzlaws_internal_report_b1.FnAddAtAnyCutAgrees': WHATEVER THE INPUT: true; the input reads as it did. -/
def fnAddAtAnyCutAgreesSpec : ChangeSpec := { name := "fnAddAtAnyCutAgrees", fn := fun _ => fun
  | [d1, d2, d3, d4, d5, d6, d7] => { results := [.lit (.bool true)], args := [d1, d2, d3, d4, d5, d6, d7] }
  | _ => none }
def fnAddAtAnyCutAgreesRow : OpenClaim := { program := "qxb6630645a", sum := "3dbc5bde7b79d26638727e6017caa5111d5a13517c9d018cf6d5a024f7cd5817", func := "example.com/asmexpect/asmexpect/zzlaws_internal_report_b1.FnAddAtAnyCutAgrees", spec := "fnAddAtAnyCutAgrees", apart := false }
def FnAddAtAnyCutAgreesSaid : Prop := fnAddAtAnyCutAgreesRow.holds Try.pinned (OpenSpec.ofChange fnAddAtAnyCutAgreesSpec)

/-- ITS FALSE NEIGHBOUR: 'it returns false'. Refute it at one input. -/
def fnAddAtAnyCutAgreesWrong : ChangeSpec := { name := "fnAddAtAnyCutAgrees", fn := fun _ => fun
  | [d1, d2, d3, d4, d5, d6, d7] => { results := [.lit (.bool false)], args := [d1, d2, d3, d4, d5, d6, d7] }
  | _ => none }
def FnAddAtAnyCutAgreesWrongFalsely : Prop := fnAddAtAnyCutAgreesRow.holds Try.pinned (OpenSpec.ofChange fnAddAtAnyCutAgreesWrong)

end Rows
end Go.Proofs.Qxb6630645a
