/-
  No cell of these rows narrows 'for every input' (looked for: loops, veiled, ifaces, maps, wideKeys, modest, calm, conditions, laid).
  DERIVED. THE GIVEN ROWS OF THIS SEAT. 2 by the template 'for every input the law returns true; each argument reads behind the call as it read before'; 0 by the template 'total and deterministic' (their statements: Qxb6630565aTotals.lean).
  GIVEN WITH THE SEED: the statements are not yours to turn. If you find one false, say at which input.
  Laid BY PROGRAM, IN A SANDBOX (cutbox-rows.mjs): the forced cells as the released guide's own fill.sh prints them over the translation a104e8a29a55553e… (all of the seat's roots in one cut). By AI agents, Wed Nov 11 2026. No macro, syntax, notation, axiom, sorry.
-/
import Derived.Test.Qxb6630565aChecked
import GoSem.Claim
import GoSem.ClaimJoined
import GoSem.ClaimMapViews
import Derived.JoinedTies
import Derived.KernelRfl
namespace Go.Proofs.Qxb6630565a
/- THE CELL 'sum', in the pinned program and in every row, IS THE sha256 OF THE DUMP (.gsa) THAT Qxb6630565aProg.lean LOADS. Nothing in Lean hashes anything: it is a label: what it is worth is what the hold of that sum in a sandbox is worth. -/
noncomputable def Try.pinned : Pinned := { name := "qxb6630565a", sum := "a104e8a29a55553e060f6dc863ec812b76f662c328c9881e2766d1d81d257e3f", checked := Try.checked }
namespace Rows
def none {H : Type} : Left H := { results := [], args := [] }

/-- 'zzlaws_internal_store_b1.FnPruneKeepsEachDueKeyFromItsLatestAtHorizon': WHATEVER THE INPUT: true; the input reads as it did. -/
def fnPruneKeepsEachDueKeyFromItsLatestAtHorizonSpec : ChangeSpec := { name := "fnPruneKeepsEachDueKeyFromItsLatestAtHorizon", fn := fun _ => fun
  | [d1, d2] => { results := [.lit (.bool true)], args := [d1, d2] }
  | _ => none }
def fnPruneKeepsEachDueKeyFromItsLatestAtHorizonRow : OpenClaim := { program := "qxb6630565a", sum := "a104e8a29a55553e060f6dc863ec812b76f662c328c9881e2766d1d81d257e3f", func := "example.com/tidemark/tidemark/zzlaws_internal_store_b1.FnPruneKeepsEachDueKeyFromItsLatestAtHorizon", spec := "fnPruneKeepsEachDueKeyFromItsLatestAtHorizon", inPlace := ["sync/atomic.StoreUint64", "slices.overlaps[example.com/tidemark/tidemark/internal/hlc.Timestamp]", "sync/atomic.LoadUint64", "(*sync.RWMutex).Lock", "internal/race.Read", "internal/race.Disable", "(*internal/sync.Mutex).Lock", "sync/atomic.CompareAndSwapInt32", "internal/race.Enable", "internal/race.Acquire", "(*internal/sync.Mutex).lockSlow", "internal/sync.runtime_canSpin", "internal/sync.runtime_doSpin", "internal/sync.throw", "internal/sync.runtime_nanotime", "internal/sync.runtime_SemacquireMutex", "sync/atomic.AddInt32", "sync.runtime_SemacquireRWMutex", "(*sync.RWMutex).Unlock", "internal/race.Release", "internal/race.ReleaseMerge", "sync.fatal", "sync.runtime_Semrelease", "(*internal/sync.Mutex).Unlock", "(*internal/sync.Mutex).unlockSlow", "internal/sync.fatal", "internal/sync.runtime_Semrelease", "sync/atomic.LoadInt32", "sync/atomic.StoreInt32"], unfollowed := true, recurses := true, named := ["encoding/binary.LittleEndian"], apart := false }
def FnPruneKeepsEachDueKeyFromItsLatestAtHorizonSaid : Prop := fnPruneKeepsEachDueKeyFromItsLatestAtHorizonRow.holds Try.pinned (OpenSpec.ofChange fnPruneKeepsEachDueKeyFromItsLatestAtHorizonSpec)

/-- ITS FALSE NEIGHBOUR: 'it returns false'. Refute it at one input. -/
def fnPruneKeepsEachDueKeyFromItsLatestAtHorizonWrong : ChangeSpec := { name := "fnPruneKeepsEachDueKeyFromItsLatestAtHorizon", fn := fun _ => fun
  | [d1, d2] => { results := [.lit (.bool false)], args := [d1, d2] }
  | _ => none }
def FnPruneKeepsEachDueKeyFromItsLatestAtHorizonWrongFalsely : Prop := fnPruneKeepsEachDueKeyFromItsLatestAtHorizonRow.holds Try.pinned (OpenSpec.ofChange fnPruneKeepsEachDueKeyFromItsLatestAtHorizonWrong)

/-- 'zzlaws_internal_store_b1.FnPruneSetsNextDueAndIsIdempotent': WHATEVER THE INPUT: true; the input reads as it did. -/
def fnPruneSetsNextDueAndIsIdempotentSpec : ChangeSpec := { name := "fnPruneSetsNextDueAndIsIdempotent", fn := fun _ => fun
  | [d1, d2] => { results := [.lit (.bool true)], args := [d1, d2] }
  | _ => none }
def fnPruneSetsNextDueAndIsIdempotentRow : OpenClaim := { program := "qxb6630565a", sum := "a104e8a29a55553e060f6dc863ec812b76f662c328c9881e2766d1d81d257e3f", func := "example.com/tidemark/tidemark/zzlaws_internal_store_b1.FnPruneSetsNextDueAndIsIdempotent", spec := "fnPruneSetsNextDueAndIsIdempotent", inPlace := ["sync/atomic.StoreUint64", "slices.overlaps[example.com/tidemark/tidemark/internal/hlc.Timestamp]", "sync/atomic.LoadUint64", "(*sync.RWMutex).Lock", "internal/race.Read", "internal/race.Disable", "(*internal/sync.Mutex).Lock", "sync/atomic.CompareAndSwapInt32", "internal/race.Enable", "internal/race.Acquire", "(*internal/sync.Mutex).lockSlow", "internal/sync.runtime_canSpin", "internal/sync.runtime_doSpin", "internal/sync.throw", "internal/sync.runtime_nanotime", "internal/sync.runtime_SemacquireMutex", "sync/atomic.AddInt32", "sync.runtime_SemacquireRWMutex", "(*sync.RWMutex).Unlock", "internal/race.Release", "internal/race.ReleaseMerge", "sync.fatal", "sync.runtime_Semrelease", "(*internal/sync.Mutex).Unlock", "(*internal/sync.Mutex).unlockSlow", "internal/sync.fatal", "internal/sync.runtime_Semrelease", "sync/atomic.LoadInt32", "sync/atomic.StoreInt32"], unfollowed := true, recurses := true, named := ["encoding/binary.LittleEndian"], apart := false }
def FnPruneSetsNextDueAndIsIdempotentSaid : Prop := fnPruneSetsNextDueAndIsIdempotentRow.holds Try.pinned (OpenSpec.ofChange fnPruneSetsNextDueAndIsIdempotentSpec)

/-- ITS FALSE NEIGHBOUR: 'it returns false'. Refute it at one input. -/
def fnPruneSetsNextDueAndIsIdempotentWrong : ChangeSpec := { name := "fnPruneSetsNextDueAndIsIdempotent", fn := fun _ => fun
  | [d1, d2] => { results := [.lit (.bool false)], args := [d1, d2] }
  | _ => none }
def FnPruneSetsNextDueAndIsIdempotentWrongFalsely : Prop := fnPruneSetsNextDueAndIsIdempotentRow.holds Try.pinned (OpenSpec.ofChange fnPruneSetsNextDueAndIsIdempotentWrong)

end Rows
end Go.Proofs.Qxb6630565a
