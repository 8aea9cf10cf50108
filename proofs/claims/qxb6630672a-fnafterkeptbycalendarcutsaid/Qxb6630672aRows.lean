/-
  No cell of these rows narrows 'for every input' (looked for: loops, veiled, ifaces, maps, wideKeys, modest, calm, conditions, laid).
  DERIVED. THE GIVEN ROWS OF THIS SEAT. 2 by the template 'for every input the law returns true; each argument reads behind the call as it read before'; 0 by the template 'total and deterministic' (their statements: Qxb6630672aTotals.lean).
  GIVEN WITH THE SEED: the statements are not yours to turn. If you find one false, say at which input.
  Laid BY PROGRAM, IN A SANDBOX (cutbox-rows.mjs): the forced cells as the released guide's own fill.sh prints them over the translation e380ee2ddad607d7… (all of the seat's roots in one cut). By AI agents, Wed Nov 11 2026. No macro, syntax, notation, axiom, sorry.
-/
import Derived.Test.Qxb6630672aChecked
import GoSem.Claim
import GoSem.ClaimJoined
import GoSem.ClaimMapViews
import Derived.JoinedTies
import Derived.KernelRfl
namespace Go.Proofs.Qxb6630672a
/- THE CELL 'sum', in the pinned program and in every row, IS THE sha256 OF THE DUMP (.gsa) THAT Qxb6630672aProg.lean LOADS. Nothing in Lean hashes anything: it is a label: what it is worth is what the hold of that sum in a sandbox is worth. -/
noncomputable def Try.pinned : Pinned := { name := "qxb6630672a", sum := "e380ee2ddad607d7a658839a7db638203cd12af9e9176296206769d0cf6f9787", checked := Try.checked }
namespace Rows
def none {H : Type} : Left H := { results := [], args := [] }

/-- 'zzlaws_pkg_calendar_b1.FnAfterComposesAndCountsDays': WHATEVER THE INPUT: true; the input reads as it did. -/
def fnAfterComposesAndCountsDaysSpec : ChangeSpec := { name := "fnAfterComposesAndCountsDays", fn := fun _ => fun
  | [d1, d2, d3, d4] => { results := [.lit (.bool true)], args := [d1, d2, d3, d4] }
  | _ => none }
def fnAfterComposesAndCountsDaysRow : OpenClaim := { program := "qxb6630672a", sum := "e380ee2ddad607d7a658839a7db638203cd12af9e9176296206769d0cf6f9787", func := "example.com/tuoguan/tuoguan/zzlaws_pkg_calendar_b1.FnAfterComposesAndCountsDays", spec := "fnAfterComposesAndCountsDays", unfollowed := true, recurses := true, apart := false }
def FnAfterComposesAndCountsDaysSaid : Prop := fnAfterComposesAndCountsDaysRow.holds Try.pinned (OpenSpec.ofChange fnAfterComposesAndCountsDaysSpec)

/-- ITS FALSE NEIGHBOUR: 'it returns false'. Refute it at one input. -/
def fnAfterComposesAndCountsDaysWrong : ChangeSpec := { name := "fnAfterComposesAndCountsDays", fn := fun _ => fun
  | [d1, d2, d3, d4] => { results := [.lit (.bool false)], args := [d1, d2, d3, d4] }
  | _ => none }
def FnAfterComposesAndCountsDaysWrongFalsely : Prop := fnAfterComposesAndCountsDaysRow.holds Try.pinned (OpenSpec.ofChange fnAfterComposesAndCountsDaysWrong)

/-- 'zzlaws_pkg_calendar_b1.FnAfterKeptByCalendarCut': WHATEVER THE INPUT: true; the input reads as it did. -/
def fnAfterKeptByCalendarCutSpec : ChangeSpec := { name := "fnAfterKeptByCalendarCut", fn := fun _ => fun
  | [d1, d2, d3, d4] => { results := [.lit (.bool true)], args := [d1, d2, d3, d4] }
  | _ => none }
def fnAfterKeptByCalendarCutRow : OpenClaim := { program := "qxb6630672a", sum := "e380ee2ddad607d7a658839a7db638203cd12af9e9176296206769d0cf6f9787", func := "example.com/tuoguan/tuoguan/zzlaws_pkg_calendar_b1.FnAfterKeptByCalendarCut", spec := "fnAfterKeptByCalendarCut", unfollowed := true, recurses := true, apart := false }
def FnAfterKeptByCalendarCutSaid : Prop := fnAfterKeptByCalendarCutRow.holds Try.pinned (OpenSpec.ofChange fnAfterKeptByCalendarCutSpec)

/-- ITS FALSE NEIGHBOUR: 'it returns false'. Refute it at one input. -/
def fnAfterKeptByCalendarCutWrong : ChangeSpec := { name := "fnAfterKeptByCalendarCut", fn := fun _ => fun
  | [d1, d2, d3, d4] => { results := [.lit (.bool false)], args := [d1, d2, d3, d4] }
  | _ => none }
def FnAfterKeptByCalendarCutWrongFalsely : Prop := fnAfterKeptByCalendarCutRow.holds Try.pinned (OpenSpec.ofChange fnAfterKeptByCalendarCutWrong)

end Rows
end Go.Proofs.Qxb6630672a
