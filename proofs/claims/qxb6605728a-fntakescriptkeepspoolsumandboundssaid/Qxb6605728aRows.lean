/-
  No cell of these rows narrows 'for every input' (looked for: loops, veiled, ifaces, maps, wideKeys, modest, calm, conditions, laid).
  DERIVED. THE GIVEN ROWS OF THIS SEAT. 2 by the template 'for every input the law returns true; each argument reads behind the call as it read before'; 0 by the template 'total and deterministic' (their statements: Qxb6605728aTotals.lean).
  GIVEN WITH THE SEED: the statements are not yours to turn. If you find one false, say at which input.
  Laid BY PROGRAM, IN A SANDBOX (cutbox-rows.mjs): the forced cells as the released guide's own fill.sh prints them over the translation dee991db8e1b8b3d… (all of the seat's roots in one cut). By AI agents, Wed Nov 11 2026. No macro, syntax, notation, axiom, sorry.
-/
import Derived.Test.Qxb6605728aChecked
import GoSem.Claim
import GoSem.ClaimJoined
import GoSem.ClaimMapViews
import Derived.JoinedTies
import Derived.KernelRfl
namespace Go.Proofs.Qxb6605728a
/- THE CELL 'sum', in the pinned program and in every row, IS THE sha256 OF THE DUMP (.gsa) THAT Qxb6605728aProg.lean LOADS. Nothing in Lean hashes anything: it is a label: what it is worth is what the hold of that sum in a sandbox is worth. -/
noncomputable def Try.pinned : Pinned := { name := "qxb6605728a", sum := "dee991db8e1b8b3d5e452c13ae3b4edc2ec70b6e53892e9714fe822f55c8da02", checked := Try.checked }
namespace Rows
def none {H : Type} : Left H := { results := [], args := [] }

/-- 'zzlaws_server_b1.FnTakeScriptKeepsPoolSumAndBounds': WHATEVER THE INPUT: true; the input reads as it did. -/
def fnTakeScriptKeepsPoolSumAndBoundsSpec : ChangeSpec := { name := "fnTakeScriptKeepsPoolSumAndBounds", fn := fun _ => fun
  | [d1, d2, d3] => { results := [.lit (.bool true)], args := [d1, d2, d3] }
  | _ => none }
def fnTakeScriptKeepsPoolSumAndBoundsRow : OpenClaim := { program := "qxb6605728a", sum := "dee991db8e1b8b3d5e452c13ae3b4edc2ec70b6e53892e9714fe822f55c8da02", func := "example.com/agni/agni/zzlaws_server_b1.FnTakeScriptKeepsPoolSumAndBounds", spec := "fnTakeScriptKeepsPoolSumAndBounds", inPlace := ["(*internal/sync.Mutex).Lock", "internal/race.Disable", "sync/atomic.CompareAndSwapInt32", "internal/race.Enable", "internal/race.Acquire", "(*internal/sync.Mutex).lockSlow", "internal/sync.runtime_canSpin", "internal/sync.runtime_doSpin", "internal/sync.throw", "internal/sync.runtime_nanotime", "internal/sync.runtime_SemacquireMutex", "sync/atomic.AddInt32", "(*internal/sync.Mutex).Unlock", "internal/race.ReleaseMerge", "(*internal/sync.Mutex).unlockSlow", "internal/sync.fatal", "internal/sync.runtime_Semrelease"], apart := false }
def FnTakeScriptKeepsPoolSumAndBoundsSaid : Prop := fnTakeScriptKeepsPoolSumAndBoundsRow.holds Try.pinned (OpenSpec.ofChange fnTakeScriptKeepsPoolSumAndBoundsSpec)

/-- ITS FALSE NEIGHBOUR: 'it returns false'. Refute it at one input. -/
def fnTakeScriptKeepsPoolSumAndBoundsWrong : ChangeSpec := { name := "fnTakeScriptKeepsPoolSumAndBounds", fn := fun _ => fun
  | [d1, d2, d3] => { results := [.lit (.bool false)], args := [d1, d2, d3] }
  | _ => none }
def FnTakeScriptKeepsPoolSumAndBoundsWrongFalsely : Prop := fnTakeScriptKeepsPoolSumAndBoundsRow.holds Try.pinned (OpenSpec.ofChange fnTakeScriptKeepsPoolSumAndBoundsWrong)

/-- 'zzlaws_server_b1.FnHoldUpToAloneHoldsUpToHalfThePool': WHATEVER THE INPUT: true; the input reads as it did. -/
def fnHoldUpToAloneHoldsUpToHalfThePoolSpec : ChangeSpec := { name := "fnHoldUpToAloneHoldsUpToHalfThePool", fn := fun _ => fun
  | [d1, d2, d3, d4] => { results := [.lit (.bool true)], args := [d1, d2, d3, d4] }
  | _ => none }
def fnHoldUpToAloneHoldsUpToHalfThePoolRow : OpenClaim := { program := "qxb6605728a", sum := "dee991db8e1b8b3d5e452c13ae3b4edc2ec70b6e53892e9714fe822f55c8da02", func := "example.com/agni/agni/zzlaws_server_b1.FnHoldUpToAloneHoldsUpToHalfThePool", spec := "fnHoldUpToAloneHoldsUpToHalfThePool", inPlace := ["(*internal/sync.Mutex).Lock", "internal/race.Disable", "sync/atomic.CompareAndSwapInt32", "internal/race.Enable", "internal/race.Acquire", "(*internal/sync.Mutex).lockSlow", "internal/sync.runtime_canSpin", "internal/sync.runtime_doSpin", "internal/sync.throw", "internal/sync.runtime_nanotime", "internal/sync.runtime_SemacquireMutex", "sync/atomic.AddInt32", "(*internal/sync.Mutex).Unlock", "internal/race.ReleaseMerge", "(*internal/sync.Mutex).unlockSlow", "internal/sync.fatal", "internal/sync.runtime_Semrelease"], apart := false }
def FnHoldUpToAloneHoldsUpToHalfThePoolSaid : Prop := fnHoldUpToAloneHoldsUpToHalfThePoolRow.holds Try.pinned (OpenSpec.ofChange fnHoldUpToAloneHoldsUpToHalfThePoolSpec)

/-- ITS FALSE NEIGHBOUR: 'it returns false'. Refute it at one input. -/
def fnHoldUpToAloneHoldsUpToHalfThePoolWrong : ChangeSpec := { name := "fnHoldUpToAloneHoldsUpToHalfThePool", fn := fun _ => fun
  | [d1, d2, d3, d4] => { results := [.lit (.bool false)], args := [d1, d2, d3, d4] }
  | _ => none }
def FnHoldUpToAloneHoldsUpToHalfThePoolWrongFalsely : Prop := fnHoldUpToAloneHoldsUpToHalfThePoolRow.holds Try.pinned (OpenSpec.ofChange fnHoldUpToAloneHoldsUpToHalfThePoolWrong)

end Rows
end Go.Proofs.Qxb6605728a
