/-
  DERIVED. GIVEN WITH THE SEED: THE CARDS: each row of Qxb6628281aFmtRows.lean that lists a variable, with what it lists TIED to the program's text (the seventh form; the later family's looks); each row that meets fmt, with fmt's text TOLD by the authors' own Lean function (tested against real Go, not proved from fmt's source: count such statements apart). THE CARD IS WHAT COUNTS. Prove the row's statement (the work); the ties are given (Qxb6628281aFmtTie.lean); close each card by the builder's one call (the guide's Derived/Test/ToyasCard.lean, 'card_holds'). Laid BY PROGRAM, IN A SANDBOX (cutbox-door.mjs). By AI agents, Wed Nov 11 2026. No macro, syntax, notation, axiom, sorry.
-/
import Derived.Test.Qxb6628281aFmtRows
import GoSem.ClaimSeven
namespace Go.Proofs.Qxb6628281aFmt
namespace Rows

/-- THE TOLD CARD OF 'zzlaws_internal_units_b1.FnGrantIsLeastWholeUnitsAndFixed'. -/
def fnGrantIsLeastWholeUnitsAndFixedCard : Claim7 := { stood := { row := fnGrantIsLeastWholeUnitsAndFixedRow, standIns := [], harness := (true, "38d8ce8718f9682d1d54c0423678a55398e940db7ccd524ddc37ec2b2ea8733e"), looks := false }, told := true, goes := false }
def FnGrantIsLeastWholeUnitsAndFixedToldSaid : Prop := Claim7.holds Tryf.pinned (.plain (OpenSpec.ofChange fnGrantIsLeastWholeUnitsAndFixedSpec)) fnGrantIsLeastWholeUnitsAndFixedCard
/-- ITS FALSE NEIGHBOUR. Refute it at one input. -/
def FnGrantIsLeastWholeUnitsAndFixedToldWrongFalsely : Prop := Claim7.holds Tryf.pinned (.plain (OpenSpec.ofChange fnGrantIsLeastWholeUnitsAndFixedWrong)) fnGrantIsLeastWholeUnitsAndFixedCard

/-- THE TOLD CARD OF 'zzlaws_internal_units_b1.FnGrantKeepsOrderAndBlocks'. -/
def fnGrantKeepsOrderAndBlocksCard : Claim7 := { stood := { row := fnGrantKeepsOrderAndBlocksRow, standIns := [], harness := (true, "38d8ce8718f9682d1d54c0423678a55398e940db7ccd524ddc37ec2b2ea8733e"), looks := false }, told := true, goes := false }
def FnGrantKeepsOrderAndBlocksToldSaid : Prop := Claim7.holds Tryf.pinned (.plain (OpenSpec.ofChange fnGrantKeepsOrderAndBlocksSpec)) fnGrantKeepsOrderAndBlocksCard
/-- ITS FALSE NEIGHBOUR. Refute it at one input. -/
def FnGrantKeepsOrderAndBlocksToldWrongFalsely : Prop := Claim7.holds Tryf.pinned (.plain (OpenSpec.ofChange fnGrantKeepsOrderAndBlocksWrong)) fnGrantKeepsOrderAndBlocksCard
end Rows
end Go.Proofs.Qxb6628281aFmt
