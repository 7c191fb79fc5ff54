/-
  No cell of these rows narrows 'for every input' (looked for: loops, veiled, ifaces, maps, wideKeys, modest, calm, conditions, laid).
  DERIVED. THE GIVEN ROWS OF THIS SEAT. 2 by the template 'for every input the law returns true; each argument reads behind the call as it read before'; 0 by the template 'total and deterministic' (their statements: Qxb6630691aTotals.lean).
  GIVEN WITH THE SEED: the statements are not yours to turn. If you find one false, say at which input.
  Laid BY PROGRAM, IN A SANDBOX (cutbox-rows.mjs): the forced cells as the released guide's own fill.sh prints them over the translation 857ac690019f2326… (all of the seat's roots in one cut). By AI agents, Wed Nov 11 2026. No macro, syntax, notation, axiom, sorry.
-/
import Derived.Test.Qxb6630691aChecked
import GoSem.Claim
import GoSem.ClaimJoined
import GoSem.ClaimMapViews
import Derived.JoinedTies
import Derived.KernelRfl
namespace Go.Proofs.Qxb6630691a
/- THE CELL 'sum', in the pinned program and in every row, IS THE sha256 OF THE DUMP (.gsa) THAT Qxb6630691aProg.lean LOADS. Nothing in Lean hashes anything: it is a label: what it is worth is what the hold of that sum in a sandbox is worth. -/
noncomputable def Try.pinned : Pinned := { name := "qxb6630691a", sum := "857ac690019f2326dad0a5139b76d9012f3e7a6d1657eb9d1a785cb0f475a046", checked := Try.checked }
namespace Rows
def none {H : Type} : Left H := { results := [], args := [] }

/-- 'zzlaws_internal_calendar_b1.FnBeforeIsChronological': WHATEVER THE INPUT: true; the input reads as it did. -/
def fnBeforeIsChronologicalSpec : ChangeSpec := { name := "fnBeforeIsChronological", fn := fun _ => fun
  | [d1, d2, d3, d4, d5, d6] => { results := [.lit (.bool true)], args := [d1, d2, d3, d4, d5, d6] }
  | _ => none }
def fnBeforeIsChronologicalRow : OpenClaim := { program := "qxb6630691a", sum := "857ac690019f2326dad0a5139b76d9012f3e7a6d1657eb9d1a785cb0f475a046", func := "example.com/vestwright/vestwright/zzlaws_internal_calendar_b1.FnBeforeIsChronological", spec := "fnBeforeIsChronological", apart := false }
def FnBeforeIsChronologicalSaid : Prop := fnBeforeIsChronologicalRow.holds Try.pinned (OpenSpec.ofChange fnBeforeIsChronologicalSpec)

/-- ITS FALSE NEIGHBOUR: 'it returns false'. Refute it at one input. -/
def fnBeforeIsChronologicalWrong : ChangeSpec := { name := "fnBeforeIsChronological", fn := fun _ => fun
  | [d1, d2, d3, d4, d5, d6] => { results := [.lit (.bool false)], args := [d1, d2, d3, d4, d5, d6] }
  | _ => none }
def FnBeforeIsChronologicalWrongFalsely : Prop := fnBeforeIsChronologicalRow.holds Try.pinned (OpenSpec.ofChange fnBeforeIsChronologicalWrong)

/-- 'zzlaws_internal_calendar_b1.FnBeforeNextDaySucceeds': WHATEVER THE INPUT: true; the input reads as it did. -/
def fnBeforeNextDaySucceedsSpec : ChangeSpec := { name := "fnBeforeNextDaySucceeds", fn := fun _ => fun
  | [d1, d2, d3, d4, d5, d6] => { results := [.lit (.bool true)], args := [d1, d2, d3, d4, d5, d6] }
  | _ => none }
def fnBeforeNextDaySucceedsRow : OpenClaim := { program := "qxb6630691a", sum := "857ac690019f2326dad0a5139b76d9012f3e7a6d1657eb9d1a785cb0f475a046", func := "example.com/vestwright/vestwright/zzlaws_internal_calendar_b1.FnBeforeNextDaySucceeds", spec := "fnBeforeNextDaySucceeds", apart := false }
def FnBeforeNextDaySucceedsSaid : Prop := fnBeforeNextDaySucceedsRow.holds Try.pinned (OpenSpec.ofChange fnBeforeNextDaySucceedsSpec)

/-- ITS FALSE NEIGHBOUR: 'it returns false'. Refute it at one input. -/
def fnBeforeNextDaySucceedsWrong : ChangeSpec := { name := "fnBeforeNextDaySucceeds", fn := fun _ => fun
  | [d1, d2, d3, d4, d5, d6] => { results := [.lit (.bool false)], args := [d1, d2, d3, d4, d5, d6] }
  | _ => none }
def FnBeforeNextDaySucceedsWrongFalsely : Prop := fnBeforeNextDaySucceedsRow.holds Try.pinned (OpenSpec.ofChange fnBeforeNextDaySucceedsWrong)

end Rows
end Go.Proofs.Qxb6630691a
