/-
  No cell of these rows narrows 'for every input' (looked for: loops, veiled, ifaces, maps, wideKeys, modest, calm, conditions, laid).
  DERIVED. THE GIVEN ROWS OF THIS SEAT. 2 by the template 'for every input the law returns true; each argument reads behind the call as it read before'; 0 by the template 'total and deterministic' (their statements: Qxb6629324aTotals.lean).
  GIVEN WITH THE SEED: the statements are not yours to turn. If you find one false, say at which input.
  Laid BY PROGRAM, IN A SANDBOX (cutbox-rows.mjs): the forced cells as the released guide's own fill.sh prints them over the translation a260cbb274ef8f1a… (all of the seat's roots in one cut). By AI agents, Wed Nov 11 2026. No macro, syntax, notation, axiom, sorry.
-/
import Derived.Test.Qxb6629324aChecked
import GoSem.Claim
import GoSem.ClaimJoined
import GoSem.ClaimMapViews
import Derived.JoinedTies
import Derived.KernelRfl
namespace Go.Proofs.Qxb6629324a
/- THE CELL 'sum', in the pinned program and in every row, IS THE sha256 OF THE DUMP (.gsa) THAT Qxb6629324aProg.lean LOADS. Nothing in Lean hashes anything: it is a label: what it is worth is what the hold of that sum in a sandbox is worth. -/
noncomputable def Try.pinned : Pinned := { name := "qxb6629324a", sum := "a260cbb274ef8f1a751216c71578c47a5814e4215a3badc62c2e901c6ad6e3a1", checked := Try.checked }
namespace Rows
def none {H : Type} : Left H := { results := [], args := [] }

/-- 'zzlaws_internal_consent_b1.FnDecideSuppressionFirst': WHATEVER THE INPUT: true; the input reads as it did. -/
def fnDecideSuppressionFirstSpec : ChangeSpec := { name := "fnDecideSuppressionFirst", fn := fun _ => fun
  | [d1, d2, d3, d4, d5] => { results := [.lit (.bool true)], args := [d1, d2, d3, d4, d5] }
  | _ => none }
def fnDecideSuppressionFirstRow : OpenClaim := { program := "qxb6629324a", sum := "a260cbb274ef8f1a751216c71578c47a5814e4215a3badc62c2e901c6ad6e3a1", func := "example.com/assentry/assentry/zzlaws_internal_consent_b1.FnDecideSuppressionFirst", spec := "fnDecideSuppressionFirst", apart := false }
def FnDecideSuppressionFirstSaid : Prop := fnDecideSuppressionFirstRow.holds Try.pinned (OpenSpec.ofChange fnDecideSuppressionFirstSpec)

/-- ITS FALSE NEIGHBOUR: 'it returns false'. Refute it at one input. -/
def fnDecideSuppressionFirstWrong : ChangeSpec := { name := "fnDecideSuppressionFirst", fn := fun _ => fun
  | [d1, d2, d3, d4, d5] => { results := [.lit (.bool false)], args := [d1, d2, d3, d4, d5] }
  | _ => none }
def FnDecideSuppressionFirstWrongFalsely : Prop := fnDecideSuppressionFirstRow.holds Try.pinned (OpenSpec.ofChange fnDecideSuppressionFirstWrong)

/-- 'zzlaws_internal_consent_b1.FnDecideClockOnlyThroughImpliedWindow': WHATEVER THE INPUT: true; the input reads as it did. -/
def fnDecideClockOnlyThroughImpliedWindowSpec : ChangeSpec := { name := "fnDecideClockOnlyThroughImpliedWindow", fn := fun _ => fun
  | [d1, d2, d3, d4, d5] => { results := [.lit (.bool true)], args := [d1, d2, d3, d4, d5] }
  | _ => none }
def fnDecideClockOnlyThroughImpliedWindowRow : OpenClaim := { program := "qxb6629324a", sum := "a260cbb274ef8f1a751216c71578c47a5814e4215a3badc62c2e901c6ad6e3a1", func := "example.com/assentry/assentry/zzlaws_internal_consent_b1.FnDecideClockOnlyThroughImpliedWindow", spec := "fnDecideClockOnlyThroughImpliedWindow", apart := false }
def FnDecideClockOnlyThroughImpliedWindowSaid : Prop := fnDecideClockOnlyThroughImpliedWindowRow.holds Try.pinned (OpenSpec.ofChange fnDecideClockOnlyThroughImpliedWindowSpec)

/-- ITS FALSE NEIGHBOUR: 'it returns false'. Refute it at one input. -/
def fnDecideClockOnlyThroughImpliedWindowWrong : ChangeSpec := { name := "fnDecideClockOnlyThroughImpliedWindow", fn := fun _ => fun
  | [d1, d2, d3, d4, d5] => { results := [.lit (.bool false)], args := [d1, d2, d3, d4, d5] }
  | _ => none }
def FnDecideClockOnlyThroughImpliedWindowWrongFalsely : Prop := fnDecideClockOnlyThroughImpliedWindowRow.holds Try.pinned (OpenSpec.ofChange fnDecideClockOnlyThroughImpliedWindowWrong)

end Rows
end Go.Proofs.Qxb6629324a
