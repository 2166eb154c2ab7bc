/-
  No cell of these rows narrows 'for every input' (looked for: loops, veiled, ifaces, maps, wideKeys, modest, calm, conditions, laid).
  DERIVED. THE GIVEN ROWS OF THIS SEAT. 2 by the template 'for every input the law returns true; each argument reads behind the call as it read before'; 0 by the template 'total and deterministic' (their statements: Qxb6628193aTotals.lean).
  GIVEN WITH THE SEED: the statements are not yours to turn. If you find one false, say at which input.
  Laid BY PROGRAM, IN A SANDBOX (cutbox-rows.mjs): the forced cells as the released guide's own fill.sh prints them over the translation 3bfe4dbd9da12327… (all of the seat's roots in one cut). By AI agents, Wed Nov 11 2026. No macro, syntax, notation, axiom, sorry.
-/
import Derived.Test.Qxb6628193aChecked
import GoSem.Claim
import GoSem.ClaimJoined
import GoSem.ClaimMapViews
import Derived.JoinedTies
import Derived.KernelRfl
namespace Go.Proofs.Qxb6628193a
/- THE CELL 'sum', in the pinned program and in every row, IS THE sha256 OF THE DUMP (.gsa) THAT Qxb6628193aProg.lean LOADS. Nothing in Lean hashes anything: it is a label: what it is worth is what the hold of that sum in a sandbox is worth. -/
noncomputable def Try.pinned : Pinned := { name := "qxb6628193a", sum := "3bfe4dbd9da12327288cc580566dc12b56103a730aca0948975b785f0d50fbb7", checked := Try.checked }
namespace Rows
def none {H : Type} : Left H := { results := [], args := [] }

/-- 'zzlaws_internal_refund_b1.FnAnswerAfterPut': WHATEVER THE INPUT: true; the input reads as it did. -/
def fnAnswerAfterPutSpec : ChangeSpec := { name := "fnAnswerAfterPut", fn := fun _ => fun
  | [d1, d2, d3, d4, d5, d6, d7] => { results := [.lit (.bool true)], args := [d1, d2, d3, d4, d5, d6, d7] }
  | _ => none }
def fnAnswerAfterPutRow : OpenClaim := { program := "qxb6628193a", sum := "3bfe4dbd9da12327288cc580566dc12b56103a730aca0948975b785f0d50fbb7", func := "example.com/kembali/kembali/zzlaws_internal_refund_b1.FnAnswerAfterPut", spec := "fnAnswerAfterPut", apart := false }
def FnAnswerAfterPutSaid : Prop := fnAnswerAfterPutRow.holds Try.pinned (OpenSpec.ofChange fnAnswerAfterPutSpec)

/-- ITS FALSE NEIGHBOUR: 'it returns false'. Refute it at one input. -/
def fnAnswerAfterPutWrong : ChangeSpec := { name := "fnAnswerAfterPut", fn := fun _ => fun
  | [d1, d2, d3, d4, d5, d6, d7] => { results := [.lit (.bool false)], args := [d1, d2, d3, d4, d5, d6, d7] }
  | _ => none }
def FnAnswerAfterPutWrongFalsely : Prop := fnAnswerAfterPutRow.holds Try.pinned (OpenSpec.ofChange fnAnswerAfterPutWrong)

/-- 'zzlaws_internal_refund_b1.FnAnswerOwnEntryAloneAndDeletedIsPending': WHATEVER THE INPUT: true; the input reads as it did. -/
def fnAnswerOwnEntryAloneAndDeletedIsPendingSpec : ChangeSpec := { name := "fnAnswerOwnEntryAloneAndDeletedIsPending", fn := fun _ => fun
  | [d1, d2, d3, d4] => { results := [.lit (.bool true)], args := [d1, d2, d3, d4] }
  | _ => none }
def fnAnswerOwnEntryAloneAndDeletedIsPendingRow : OpenClaim := { program := "qxb6628193a", sum := "3bfe4dbd9da12327288cc580566dc12b56103a730aca0948975b785f0d50fbb7", func := "example.com/kembali/kembali/zzlaws_internal_refund_b1.FnAnswerOwnEntryAloneAndDeletedIsPending", spec := "fnAnswerOwnEntryAloneAndDeletedIsPending", apart := false }
def FnAnswerOwnEntryAloneAndDeletedIsPendingSaid : Prop := fnAnswerOwnEntryAloneAndDeletedIsPendingRow.holds Try.pinned (OpenSpec.ofChange fnAnswerOwnEntryAloneAndDeletedIsPendingSpec)

/-- ITS FALSE NEIGHBOUR: 'it returns false'. Refute it at one input. -/
def fnAnswerOwnEntryAloneAndDeletedIsPendingWrong : ChangeSpec := { name := "fnAnswerOwnEntryAloneAndDeletedIsPending", fn := fun _ => fun
  | [d1, d2, d3, d4] => { results := [.lit (.bool false)], args := [d1, d2, d3, d4] }
  | _ => none }
def FnAnswerOwnEntryAloneAndDeletedIsPendingWrongFalsely : Prop := fnAnswerOwnEntryAloneAndDeletedIsPendingRow.holds Try.pinned (OpenSpec.ofChange fnAnswerOwnEntryAloneAndDeletedIsPendingWrong)

end Rows
end Go.Proofs.Qxb6628193a
