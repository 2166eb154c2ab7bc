/-
  No cell of these rows narrows 'for every input' (looked for: loops, veiled, ifaces, maps, wideKeys, modest, calm, conditions, laid).
  DERIVED. THE GIVEN ROWS OF THIS SEAT. 2 by the template 'for every input the law returns true; each argument reads behind the call as it read before'; 0 by the template 'total and deterministic' (their statements: Qxb6628281aFmtTotals.lean).
  GIVEN WITH THE SEED: the statements are not yours to turn. If you find one false, say at which input.
  Laid BY PROGRAM, IN A SANDBOX (cutbox-rows.mjs): the forced cells as the released guide's own fill.sh prints them over the translation d885ce947187f551… (all of the seat's roots in one cut). By AI agents, Wed Nov 11 2026. No macro, syntax, notation, axiom, sorry.
-/
import Derived.Test.Qxb6628281aFmtChecked
import GoSem.Claim
import GoSem.ClaimJoined
import GoSem.ClaimMapViews
import Derived.JoinedTies
import Derived.KernelRfl
namespace Go.Proofs.Qxb6628281aFmt
/- THE CELL 'sum', in the pinned program and in every row, IS THE sha256 OF THE DUMP (.gsa) THAT Qxb6628281aFmtProg.lean LOADS. Nothing in Lean hashes anything: it is a label: what it is worth is what the hold of that sum in a sandbox is worth. -/
noncomputable def Tryf.pinned : Pinned := { name := "qxb6628281afmt", sum := "d885ce947187f551a8f672ec169eb183e7691cae939463af819a35a6c17c0e5e", checked := Tryf.checked }
namespace Rows
def none {H : Type} : Left H := { results := [], args := [] }

/-- 'zzlaws_internal_units_b1.FnGrantIsLeastWholeUnitsAndFixed': WHATEVER THE INPUT: true; the input reads as it did. -/
def fnGrantIsLeastWholeUnitsAndFixedSpec : ChangeSpec := { name := "fnGrantIsLeastWholeUnitsAndFixed", fn := fun _ => fun
  | [d1, d2, d3, d4, d5] => { results := [.lit (.bool true)], args := [d1, d2, d3, d4, d5] }
  | _ => none }
def fnGrantIsLeastWholeUnitsAndFixedRow : OpenClaim := { program := "qxb6628281afmt", sum := "d885ce947187f551a8f672ec169eb183e7691cae939463af819a35a6c17c0e5e", func := "example.com/lease-to-fence/lease-to-fence/zzlaws_internal_units_b1.FnGrantIsLeastWholeUnitsAndFixed", spec := "fnGrantIsLeastWholeUnitsAndFixed", stops := ["fmt.errorf, its operands' methods called"], inPlace := ["fmt.errorf"], unfollowed := true, recurses := true, apart := false }
/-- NO THEOREM (fmt's text is open here; it may be false): for the released tool's asking of the row's closed facts alone. THE STATEMENT IS 'FnGrantIsLeastWholeUnitsAndFixedToldSaid' (Qxb6628281aFmtCards.lean). -/
def FnGrantIsLeastWholeUnitsAndFixedFormAsk : Prop := fnGrantIsLeastWholeUnitsAndFixedRow.holds Tryf.pinned (OpenSpec.ofChange fnGrantIsLeastWholeUnitsAndFixedSpec)

/-- ITS FALSE NEIGHBOUR: 'it returns false'. Refute it at one input. -/
def fnGrantIsLeastWholeUnitsAndFixedWrong : ChangeSpec := { name := "fnGrantIsLeastWholeUnitsAndFixed", fn := fun _ => fun
  | [d1, d2, d3, d4, d5] => { results := [.lit (.bool false)], args := [d1, d2, d3, d4, d5] }
  | _ => none }
def FnGrantIsLeastWholeUnitsAndFixedWrongFormAsk : Prop := fnGrantIsLeastWholeUnitsAndFixedRow.holds Tryf.pinned (OpenSpec.ofChange fnGrantIsLeastWholeUnitsAndFixedWrong)

/-- 'zzlaws_internal_units_b1.FnGrantKeepsOrderAndBlocks': WHATEVER THE INPUT: true; the input reads as it did. -/
def fnGrantKeepsOrderAndBlocksSpec : ChangeSpec := { name := "fnGrantKeepsOrderAndBlocks", fn := fun _ => fun
  | [d1, d2, d3, d4, d5, d6] => { results := [.lit (.bool true)], args := [d1, d2, d3, d4, d5, d6] }
  | _ => none }
def fnGrantKeepsOrderAndBlocksRow : OpenClaim := { program := "qxb6628281afmt", sum := "d885ce947187f551a8f672ec169eb183e7691cae939463af819a35a6c17c0e5e", func := "example.com/lease-to-fence/lease-to-fence/zzlaws_internal_units_b1.FnGrantKeepsOrderAndBlocks", spec := "fnGrantKeepsOrderAndBlocks", stops := ["fmt.errorf, its operands' methods called"], inPlace := ["fmt.errorf"], unfollowed := true, recurses := true, apart := false }
/-- NO THEOREM (fmt's text is open here; it may be false): for the released tool's asking of the row's closed facts alone. THE STATEMENT IS 'FnGrantKeepsOrderAndBlocksToldSaid' (Qxb6628281aFmtCards.lean). -/
def FnGrantKeepsOrderAndBlocksFormAsk : Prop := fnGrantKeepsOrderAndBlocksRow.holds Tryf.pinned (OpenSpec.ofChange fnGrantKeepsOrderAndBlocksSpec)

/-- ITS FALSE NEIGHBOUR: 'it returns false'. Refute it at one input. -/
def fnGrantKeepsOrderAndBlocksWrong : ChangeSpec := { name := "fnGrantKeepsOrderAndBlocks", fn := fun _ => fun
  | [d1, d2, d3, d4, d5, d6] => { results := [.lit (.bool false)], args := [d1, d2, d3, d4, d5, d6] }
  | _ => none }
def FnGrantKeepsOrderAndBlocksWrongFormAsk : Prop := fnGrantKeepsOrderAndBlocksRow.holds Tryf.pinned (OpenSpec.ofChange fnGrantKeepsOrderAndBlocksWrong)

end Rows
end Go.Proofs.Qxb6628281aFmt
