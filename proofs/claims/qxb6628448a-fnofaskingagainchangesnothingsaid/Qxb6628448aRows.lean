/-
  No cell of these rows narrows 'for every input' (looked for: loops, veiled, ifaces, maps, wideKeys, modest, calm, conditions, laid).
  DERIVED. THE GIVEN ROWS OF THIS SEAT. 2 by the template 'for every input the law returns true; each argument reads behind the call as it read before'; 0 by the template 'total and deterministic' (their statements: Qxb6628448aTotals.lean).
  GIVEN WITH THE SEED: the statements are not yours to turn. If you find one false, say at which input.
  Laid BY PROGRAM, IN A SANDBOX (cutbox-rows.mjs): the forced cells as the released guide's own fill.sh prints them over the translation c22405e7c6b97798… (all of the seat's roots in one cut). By AI agents, Wed Nov 11 2026. No macro, syntax, notation, axiom, sorry.
-/
import Derived.Test.Qxb6628448aChecked
import GoSem.Claim
import GoSem.ClaimJoined
import GoSem.ClaimMapViews
import Derived.JoinedTies
import Derived.KernelRfl
namespace Go.Proofs.Qxb6628448a
/- THE CELL 'sum', in the pinned program and in every row, IS THE sha256 OF THE DUMP (.gsa) THAT Qxb6628448aProg.lean LOADS. Nothing in Lean hashes anything: it is a label: what it is worth is what the hold of that sum in a sandbox is worth. -/
noncomputable def Try.pinned : Pinned := { name := "qxb6628448a", sum := "c22405e7c6b9779806d9c84eb069743d78bc624282d190ecedc07d9abcf438b5", checked := Try.checked }
namespace Rows
def none {H : Type} : Left H := { results := [], args := [] }

/-- 'zzlaws_internal_wire_b1.FnOfAliasesAreFirstAskOrder': WHATEVER THE INPUT: true; the input reads as it did. -/
def fnOfAliasesAreFirstAskOrderSpec : ChangeSpec := { name := "fnOfAliasesAreFirstAskOrder", fn := fun _ => fun
  | [d] => { results := [.lit (.bool true)], args := [d] }
  | _ => none }
def fnOfAliasesAreFirstAskOrderRow : OpenClaim := { program := "qxb6628448a", sum := "c22405e7c6b9779806d9c84eb069743d78bc624282d190ecedc07d9abcf438b5", func := "example.com/beforehand/beforehand/zzlaws_internal_wire_b1.FnOfAliasesAreFirstAskOrder", spec := "fnOfAliasesAreFirstAskOrder", inPlace := ["(*internal/sync.Mutex).Lock", "internal/race.Disable", "sync/atomic.CompareAndSwapInt32", "internal/race.Enable", "internal/race.Acquire", "(*internal/sync.Mutex).lockSlow", "internal/sync.runtime_canSpin", "internal/sync.runtime_doSpin", "internal/sync.throw", "internal/sync.runtime_nanotime", "internal/sync.runtime_SemacquireMutex", "sync/atomic.AddInt32", "(*internal/sync.Mutex).Unlock", "internal/race.ReleaseMerge", "(*internal/sync.Mutex).unlockSlow", "internal/sync.fatal", "internal/sync.runtime_Semrelease"], apart := false }
def FnOfAliasesAreFirstAskOrderSaid : Prop := fnOfAliasesAreFirstAskOrderRow.holds Try.pinned (OpenSpec.ofChange fnOfAliasesAreFirstAskOrderSpec)

/-- ITS FALSE NEIGHBOUR: 'it returns false'. Refute it at one input. -/
def fnOfAliasesAreFirstAskOrderWrong : ChangeSpec := { name := "fnOfAliasesAreFirstAskOrder", fn := fun _ => fun
  | [d] => { results := [.lit (.bool false)], args := [d] }
  | _ => none }
def FnOfAliasesAreFirstAskOrderWrongFalsely : Prop := fnOfAliasesAreFirstAskOrderRow.holds Try.pinned (OpenSpec.ofChange fnOfAliasesAreFirstAskOrderWrong)

/-- 'zzlaws_internal_wire_b1.FnOfAskingAgainChangesNothing': WHATEVER THE INPUT: true; the input reads as it did. -/
def fnOfAskingAgainChangesNothingSpec : ChangeSpec := { name := "fnOfAskingAgainChangesNothing", fn := fun _ => fun
  | [d1, d2] => { results := [.lit (.bool true)], args := [d1, d2] }
  | _ => none }
def fnOfAskingAgainChangesNothingRow : OpenClaim := { program := "qxb6628448a", sum := "c22405e7c6b9779806d9c84eb069743d78bc624282d190ecedc07d9abcf438b5", func := "example.com/beforehand/beforehand/zzlaws_internal_wire_b1.FnOfAskingAgainChangesNothing", spec := "fnOfAskingAgainChangesNothing", inPlace := ["(*internal/sync.Mutex).Lock", "internal/race.Disable", "sync/atomic.CompareAndSwapInt32", "internal/race.Enable", "internal/race.Acquire", "(*internal/sync.Mutex).lockSlow", "internal/sync.runtime_canSpin", "internal/sync.runtime_doSpin", "internal/sync.throw", "internal/sync.runtime_nanotime", "internal/sync.runtime_SemacquireMutex", "sync/atomic.AddInt32", "(*internal/sync.Mutex).Unlock", "internal/race.ReleaseMerge", "(*internal/sync.Mutex).unlockSlow", "internal/sync.fatal", "internal/sync.runtime_Semrelease"], apart := false }
def FnOfAskingAgainChangesNothingSaid : Prop := fnOfAskingAgainChangesNothingRow.holds Try.pinned (OpenSpec.ofChange fnOfAskingAgainChangesNothingSpec)

/-- ITS FALSE NEIGHBOUR: 'it returns false'. Refute it at one input. -/
def fnOfAskingAgainChangesNothingWrong : ChangeSpec := { name := "fnOfAskingAgainChangesNothing", fn := fun _ => fun
  | [d1, d2] => { results := [.lit (.bool false)], args := [d1, d2] }
  | _ => none }
def FnOfAskingAgainChangesNothingWrongFalsely : Prop := fnOfAskingAgainChangesNothingRow.holds Try.pinned (OpenSpec.ofChange fnOfAskingAgainChangesNothingWrong)

end Rows
end Go.Proofs.Qxb6628448a
