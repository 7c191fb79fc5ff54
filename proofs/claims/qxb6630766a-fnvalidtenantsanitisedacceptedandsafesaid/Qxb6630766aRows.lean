/-
  No cell of these rows narrows 'for every input' (looked for: loops, veiled, ifaces, maps, wideKeys, modest, calm, conditions, laid).
  DERIVED. THE GIVEN ROWS OF THIS SEAT. 2 by the template 'for every input the law returns true; each argument reads behind the call as it read before'; 0 by the template 'total and deterministic' (their statements: Qxb6630766aTotals.lean).
  GIVEN WITH THE SEED: the statements are not yours to turn. If you find one false, say at which input.
  Laid BY PROGRAM, IN A SANDBOX (cutbox-rows.mjs): the forced cells as the released guide's own fill.sh prints them over the translation 00e8a868fad1a58d… (all of the seat's roots in one cut). By AI agents, Wed Nov 11 2026. No macro, syntax, notation, axiom, sorry.
-/
import Derived.Test.Qxb6630766aChecked
import GoSem.Claim
import GoSem.ClaimJoined
import GoSem.ClaimMapViews
import Derived.JoinedTies
import Derived.KernelRfl
namespace Go.Proofs.Qxb6630766a
/- THE CELL 'sum', in the pinned program and in every row, IS THE sha256 OF THE DUMP (.gsa) THAT Qxb6630766aProg.lean LOADS. Nothing in Lean hashes anything: it is a label: what it is worth is what the hold of that sum in a sandbox is worth. -/
noncomputable def Try.pinned : Pinned := { name := "qxb6630766a", sum := "00e8a868fad1a58d8690f88b93c6e31b4b2f41886e0c7127ccde9e665dd4303f", checked := Try.checked }
namespace Rows
def none {H : Type} : Left H := { results := [], args := [] }

/-- 'zzlaws_policy_b1.FnValidTenantCutAgreesWithModel': WHATEVER THE INPUT: true; the input reads as it did. -/
def fnValidTenantCutAgreesWithModelSpec : ChangeSpec := { name := "fnValidTenantCutAgreesWithModel", fn := fun _ => fun
  | [d1, d2] => { results := [.lit (.bool true)], args := [d1, d2] }
  | _ => none }
def fnValidTenantCutAgreesWithModelRow : OpenClaim := { program := "qxb6630766a", sum := "00e8a868fad1a58d8690f88b93c6e31b4b2f41886e0c7127ccde9e665dd4303f", func := "example.com/tenantry/tenantry/zzlaws_policy_b1.FnValidTenantCutAgreesWithModel", spec := "fnValidTenantCutAgreesWithModel", apart := false }
def FnValidTenantCutAgreesWithModelSaid : Prop := fnValidTenantCutAgreesWithModelRow.holds Try.pinned (OpenSpec.ofChange fnValidTenantCutAgreesWithModelSpec)

/-- ITS FALSE NEIGHBOUR: 'it returns false'. Refute it at one input. -/
def fnValidTenantCutAgreesWithModelWrong : ChangeSpec := { name := "fnValidTenantCutAgreesWithModel", fn := fun _ => fun
  | [d1, d2] => { results := [.lit (.bool false)], args := [d1, d2] }
  | _ => none }
def FnValidTenantCutAgreesWithModelWrongFalsely : Prop := fnValidTenantCutAgreesWithModelRow.holds Try.pinned (OpenSpec.ofChange fnValidTenantCutAgreesWithModelWrong)

/-- 'zzlaws_policy_b1.FnValidTenantSanitisedAcceptedAndSafe': WHATEVER THE INPUT: true; the input reads as it did. -/
def fnValidTenantSanitisedAcceptedAndSafeSpec : ChangeSpec := { name := "fnValidTenantSanitisedAcceptedAndSafe", fn := fun _ => fun
  | [d] => { results := [.lit (.bool true)], args := [d] }
  | _ => none }
def fnValidTenantSanitisedAcceptedAndSafeRow : OpenClaim := { program := "qxb6630766a", sum := "00e8a868fad1a58d8690f88b93c6e31b4b2f41886e0c7127ccde9e665dd4303f", func := "example.com/tenantry/tenantry/zzlaws_policy_b1.FnValidTenantSanitisedAcceptedAndSafe", spec := "fnValidTenantSanitisedAcceptedAndSafe", apart := false }
def FnValidTenantSanitisedAcceptedAndSafeSaid : Prop := fnValidTenantSanitisedAcceptedAndSafeRow.holds Try.pinned (OpenSpec.ofChange fnValidTenantSanitisedAcceptedAndSafeSpec)

/-- ITS FALSE NEIGHBOUR: 'it returns false'. Refute it at one input. -/
def fnValidTenantSanitisedAcceptedAndSafeWrong : ChangeSpec := { name := "fnValidTenantSanitisedAcceptedAndSafe", fn := fun _ => fun
  | [d] => { results := [.lit (.bool false)], args := [d] }
  | _ => none }
def FnValidTenantSanitisedAcceptedAndSafeWrongFalsely : Prop := fnValidTenantSanitisedAcceptedAndSafeRow.holds Try.pinned (OpenSpec.ofChange fnValidTenantSanitisedAcceptedAndSafeWrong)

end Rows
end Go.Proofs.Qxb6630766a
