/-
  No cell of these rows narrows 'for every input' (looked for: loops, veiled, ifaces, maps, wideKeys, modest, calm, conditions, laid).
  DERIVED. THE GIVEN ROWS OF THIS SEAT. 2 by the template 'for every input the law returns true; each argument reads behind the call as it read before'; 0 by the template 'total and deterministic' (their statements: Qxb6630737aTotals.lean).
  GIVEN WITH THE SEED: the statements are not yours to turn. If you find one false, say at which input.
  Laid BY PROGRAM, IN A SANDBOX (cutbox-rows.mjs): the forced cells as the released guide's own fill.sh prints them over the translation 5c3a9f133301e46d… (all of the seat's roots in one cut). By AI agents, Wed Nov 11 2026. No macro, syntax, notation, axiom, sorry.
-/
import Derived.Test.Qxb6630737aChecked
import GoSem.Claim
import GoSem.ClaimJoined
import GoSem.ClaimMapViews
import Derived.JoinedTies
import Derived.KernelRfl
namespace Go.Proofs.Qxb6630737a
/- THE CELL 'sum', in the pinned program and in every row, IS THE sha256 OF THE DUMP (.gsa) THAT Qxb6630737aProg.lean LOADS. Nothing in Lean hashes anything: it is a label: what it is worth is what the hold of that sum in a sandbox is worth. -/
noncomputable def Try.pinned : Pinned := { name := "qxb6630737a", sum := "5c3a9f133301e46dee48e17111cf3b9b6e2749e4a96a1772131d718c6c0f3432", checked := Try.checked }
namespace Rows
def none {H : Type} : Left H := { results := [], args := [] }

/-- 'zzlaws_internal_review_b1.FnStringVerdictPrefixAndRest': WHATEVER THE INPUT: true; the input reads as it did. -/
def fnStringVerdictPrefixAndRestSpec : ChangeSpec := { name := "fnStringVerdictPrefixAndRest", fn := fun _ => fun
  | [d1, d2, d3, d4] => { results := [.lit (.bool true)], args := [d1, d2, d3, d4] }
  | _ => none }
def fnStringVerdictPrefixAndRestRow : OpenClaim := { program := "qxb6630737a", sum := "5c3a9f133301e46dee48e17111cf3b9b6e2749e4a96a1772131d718c6c0f3432", func := "example.com/custos/custos/zzlaws_internal_review_b1.FnStringVerdictPrefixAndRest", spec := "fnStringVerdictPrefixAndRest", apart := false }
def FnStringVerdictPrefixAndRestSaid : Prop := fnStringVerdictPrefixAndRestRow.holds Try.pinned (OpenSpec.ofChange fnStringVerdictPrefixAndRestSpec)

/-- ITS FALSE NEIGHBOUR: 'it returns false'. Refute it at one input. -/
def fnStringVerdictPrefixAndRestWrong : ChangeSpec := { name := "fnStringVerdictPrefixAndRest", fn := fun _ => fun
  | [d1, d2, d3, d4] => { results := [.lit (.bool false)], args := [d1, d2, d3, d4] }
  | _ => none }
def FnStringVerdictPrefixAndRestWrongFalsely : Prop := fnStringVerdictPrefixAndRestRow.holds Try.pinned (OpenSpec.ofChange fnStringVerdictPrefixAndRestWrong)

/-- 'zzlaws_internal_review_b1.FnStringDetailSplits': WHATEVER THE INPUT: true; the input reads as it did. -/
def fnStringDetailSplitsSpec : ChangeSpec := { name := "fnStringDetailSplits", fn := fun _ => fun
  | [d1, d2, d3, d4] => { results := [.lit (.bool true)], args := [d1, d2, d3, d4] }
  | _ => none }
def fnStringDetailSplitsRow : OpenClaim := { program := "qxb6630737a", sum := "5c3a9f133301e46dee48e17111cf3b9b6e2749e4a96a1772131d718c6c0f3432", func := "example.com/custos/custos/zzlaws_internal_review_b1.FnStringDetailSplits", spec := "fnStringDetailSplits", apart := false }
def FnStringDetailSplitsSaid : Prop := fnStringDetailSplitsRow.holds Try.pinned (OpenSpec.ofChange fnStringDetailSplitsSpec)

/-- ITS FALSE NEIGHBOUR: 'it returns false'. Refute it at one input. -/
def fnStringDetailSplitsWrong : ChangeSpec := { name := "fnStringDetailSplits", fn := fun _ => fun
  | [d1, d2, d3, d4] => { results := [.lit (.bool false)], args := [d1, d2, d3, d4] }
  | _ => none }
def FnStringDetailSplitsWrongFalsely : Prop := fnStringDetailSplitsRow.holds Try.pinned (OpenSpec.ofChange fnStringDetailSplitsWrong)

end Rows
end Go.Proofs.Qxb6630737a
