/-
  No cell of these rows narrows 'for every input' (looked for: loops, veiled, ifaces, maps, wideKeys, modest, calm, conditions, laid).
  DERIVED. THE GIVEN ROWS OF THIS SEAT. 2 by the template 'for every input the law returns true; each argument reads behind the call as it read before'; 0 by the template 'total and deterministic' (their statements: Qxb6628246aTotals.lean).
  GIVEN WITH THE SEED: the statements are not yours to turn. If you find one false, say at which input.
  Laid BY PROGRAM, IN A SANDBOX (cutbox-rows.mjs): the forced cells as the released guide's own fill.sh prints them over the translation 4d0970318e026cb8… (all of the seat's roots in one cut). By AI agents, Wed Nov 11 2026. No macro, syntax, notation, axiom, sorry.
-/
import Derived.Test.Qxb6628246aChecked
import GoSem.Claim
import GoSem.ClaimJoined
import GoSem.ClaimMapViews
import Derived.JoinedTies
import Derived.KernelRfl
namespace Go.Proofs.Qxb6628246a
/- THE CELL 'sum', in the pinned program and in every row, IS THE sha256 OF THE DUMP (.gsa) THAT Qxb6628246aProg.lean LOADS. Nothing in Lean hashes anything: it is a label: what it is worth is what the hold of that sum in a sandbox is worth. -/
noncomputable def Try.pinned : Pinned := { name := "qxb6628246a", sum := "4d0970318e026cb8e332d7d17e3004d110d0c67fb5e39cf3524f8d9dfef5db01", checked := Try.checked }
namespace Rows
def none {H : Type} : Left H := { results := [], args := [] }

/-- 'zzlaws_internal_session_b1.FnResetRebuildsTableExactly': WHATEVER THE INPUT: true; the input reads as it did. -/
def fnResetRebuildsTableExactlySpec : ChangeSpec := { name := "fnResetRebuildsTableExactly", fn := fun _ => fun
  | [d1, d2, d3, d4, d5, d6, d7, d8, d9] => { results := [.lit (.bool true)], args := [d1, d2, d3, d4, d5, d6, d7, d8, d9] }
  | _ => none }
def fnResetRebuildsTableExactlyRow : OpenClaim := { program := "qxb6628246a", sum := "4d0970318e026cb8e332d7d17e3004d110d0c67fb5e39cf3524f8d9dfef5db01", func := "example.com/epochtree/epochtree/zzlaws_internal_session_b1.FnResetRebuildsTableExactly", spec := "fnResetRebuildsTableExactly", inPlace := ["(*internal/sync.Mutex).Lock", "internal/race.Disable", "sync/atomic.CompareAndSwapInt32", "internal/race.Enable", "internal/race.Acquire", "(*internal/sync.Mutex).lockSlow", "internal/sync.runtime_canSpin", "internal/sync.runtime_doSpin", "internal/sync.throw", "internal/sync.runtime_nanotime", "internal/sync.runtime_SemacquireMutex", "sync/atomic.AddInt32", "(*internal/sync.Mutex).Unlock", "internal/race.ReleaseMerge", "(*internal/sync.Mutex).unlockSlow", "internal/sync.fatal", "internal/sync.runtime_Semrelease"], apart := false }
def FnResetRebuildsTableExactlySaid : Prop := fnResetRebuildsTableExactlyRow.holds Try.pinned (OpenSpec.ofChange fnResetRebuildsTableExactlySpec)

/-- ITS FALSE NEIGHBOUR: 'it returns false'. Refute it at one input. -/
def fnResetRebuildsTableExactlyWrong : ChangeSpec := { name := "fnResetRebuildsTableExactly", fn := fun _ => fun
  | [d1, d2, d3, d4, d5, d6, d7, d8, d9] => { results := [.lit (.bool false)], args := [d1, d2, d3, d4, d5, d6, d7, d8, d9] }
  | _ => none }
def FnResetRebuildsTableExactlyWrongFalsely : Prop := fnResetRebuildsTableExactlyRow.holds Try.pinned (OpenSpec.ofChange fnResetRebuildsTableExactlyWrong)

/-- 'zzlaws_internal_session_b1.FnResetForgetsEarlierReset': WHATEVER THE INPUT: true; the input reads as it did. -/
def fnResetForgetsEarlierResetSpec : ChangeSpec := { name := "fnResetForgetsEarlierReset", fn := fun _ => fun
  | [d1, d2, d3, d4, d5, d6, d7, d8, d9, d10, d11] => { results := [.lit (.bool true)], args := [d1, d2, d3, d4, d5, d6, d7, d8, d9, d10, d11] }
  | _ => none }
def fnResetForgetsEarlierResetRow : OpenClaim := { program := "qxb6628246a", sum := "4d0970318e026cb8e332d7d17e3004d110d0c67fb5e39cf3524f8d9dfef5db01", func := "example.com/epochtree/epochtree/zzlaws_internal_session_b1.FnResetForgetsEarlierReset", spec := "fnResetForgetsEarlierReset", inPlace := ["(*internal/sync.Mutex).Lock", "internal/race.Disable", "sync/atomic.CompareAndSwapInt32", "internal/race.Enable", "internal/race.Acquire", "(*internal/sync.Mutex).lockSlow", "internal/sync.runtime_canSpin", "internal/sync.runtime_doSpin", "internal/sync.throw", "internal/sync.runtime_nanotime", "internal/sync.runtime_SemacquireMutex", "sync/atomic.AddInt32", "(*internal/sync.Mutex).Unlock", "internal/race.ReleaseMerge", "(*internal/sync.Mutex).unlockSlow", "internal/sync.fatal", "internal/sync.runtime_Semrelease"], apart := false }
def FnResetForgetsEarlierResetSaid : Prop := fnResetForgetsEarlierResetRow.holds Try.pinned (OpenSpec.ofChange fnResetForgetsEarlierResetSpec)

/-- ITS FALSE NEIGHBOUR: 'it returns false'. Refute it at one input. -/
def fnResetForgetsEarlierResetWrong : ChangeSpec := { name := "fnResetForgetsEarlierReset", fn := fun _ => fun
  | [d1, d2, d3, d4, d5, d6, d7, d8, d9, d10, d11] => { results := [.lit (.bool false)], args := [d1, d2, d3, d4, d5, d6, d7, d8, d9, d10, d11] }
  | _ => none }
def FnResetForgetsEarlierResetWrongFalsely : Prop := fnResetForgetsEarlierResetRow.holds Try.pinned (OpenSpec.ofChange fnResetForgetsEarlierResetWrong)

end Rows
end Go.Proofs.Qxb6628246a
