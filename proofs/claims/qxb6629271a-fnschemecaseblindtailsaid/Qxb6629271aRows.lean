/-
  No cell of these rows narrows 'for every input' (looked for: loops, veiled, ifaces, maps, wideKeys, modest, calm, conditions, laid).
  DERIVED. THE GIVEN ROWS OF THIS SEAT. 2 by the template 'for every input the law returns true; each argument reads behind the call as it read before'; 0 by the template 'total and deterministic' (their statements: Qxb6629271aTotals.lean).
  GIVEN WITH THE SEED: the statements are not yours to turn. If you find one false, say at which input.
  Laid BY PROGRAM, IN A SANDBOX (cutbox-rows.mjs): the forced cells as the released guide's own fill.sh prints them over the translation 75345fbd6379ec62… (all of the seat's roots in one cut). By AI agents, Wed Nov 11 2026. No macro, syntax, notation, axiom, sorry.
-/
import Derived.Test.Qxb6629271aChecked
import GoSem.Claim
import GoSem.ClaimJoined
import GoSem.ClaimMapViews
import Derived.JoinedTies
import Derived.KernelRfl
namespace Go.Proofs.Qxb6629271a
/- THE CELL 'sum', in the pinned program and in every row, IS THE sha256 OF THE DUMP (.gsa) THAT Qxb6629271aProg.lean LOADS. Nothing in Lean hashes anything: it is a label: what it is worth is what the hold of that sum in a sandbox is worth. -/
noncomputable def Try.pinned : Pinned := { name := "qxb6629271a", sum := "75345fbd6379ec62f365e57412d644577516aaf7f39fdbaff273ac1d27e8e391", checked := Try.checked }
namespace Rows
def none {H : Type} : Left H := { results := [], args := [] }

/-- 'zzlaws_root_b1.FnSchemeCut': WHATEVER THE INPUT: true; the input reads as it did. -/
def fnSchemeCutSpec : ChangeSpec := { name := "fnSchemeCut", fn := fun _ => fun
  | [d1, d2] => { results := [.lit (.bool true)], args := [d1, d2] }
  | _ => none }
def fnSchemeCutRow : OpenClaim := { program := "qxb6629271a", sum := "75345fbd6379ec62f365e57412d644577516aaf7f39fdbaff273ac1d27e8e391", func := "example.com/chainwright/chainwright/zzlaws_root_b1.FnSchemeCut", spec := "fnSchemeCut", apart := false }
def FnSchemeCutSaid : Prop := fnSchemeCutRow.holds Try.pinned (OpenSpec.ofChange fnSchemeCutSpec)

/-- ITS FALSE NEIGHBOUR: 'it returns false'. Refute it at one input. -/
def fnSchemeCutWrong : ChangeSpec := { name := "fnSchemeCut", fn := fun _ => fun
  | [d1, d2] => { results := [.lit (.bool false)], args := [d1, d2] }
  | _ => none }
def FnSchemeCutWrongFalsely : Prop := fnSchemeCutRow.holds Try.pinned (OpenSpec.ofChange fnSchemeCutWrong)

/-- 'zzlaws_root_b1.FnSchemeCaseBlindTail': WHATEVER THE INPUT: true; the input reads as it did. -/
def fnSchemeCaseBlindTailSpec : ChangeSpec := { name := "fnSchemeCaseBlindTail", fn := fun _ => fun
  | [d] => { results := [.lit (.bool true)], args := [d] }
  | _ => none }
def fnSchemeCaseBlindTailRow : OpenClaim := { program := "qxb6629271a", sum := "75345fbd6379ec62f365e57412d644577516aaf7f39fdbaff273ac1d27e8e391", func := "example.com/chainwright/chainwright/zzlaws_root_b1.FnSchemeCaseBlindTail", spec := "fnSchemeCaseBlindTail", apart := false }
def FnSchemeCaseBlindTailSaid : Prop := fnSchemeCaseBlindTailRow.holds Try.pinned (OpenSpec.ofChange fnSchemeCaseBlindTailSpec)

/-- ITS FALSE NEIGHBOUR: 'it returns false'. Refute it at one input. -/
def fnSchemeCaseBlindTailWrong : ChangeSpec := { name := "fnSchemeCaseBlindTail", fn := fun _ => fun
  | [d] => { results := [.lit (.bool false)], args := [d] }
  | _ => none }
def FnSchemeCaseBlindTailWrongFalsely : Prop := fnSchemeCaseBlindTailRow.holds Try.pinned (OpenSpec.ofChange fnSchemeCaseBlindTailWrong)

end Rows
end Go.Proofs.Qxb6629271a
