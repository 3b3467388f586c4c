/-
  DERIVED. GIVEN WITH THE SEED: THE CARDS: each row of YbulkeimFmtRows.lean that lists a variable, with what it lists TIED to the program's text (the seventh form; the later family's looks); each row that meets fmt, with fmt's text TOLD by the authors' own Lean function (tested against real Go, not proved from fmt's source: count such statements apart). THE CARD IS WHAT COUNTS. Prove the row's statement (the work); the ties are given (YbulkeimFmtTie.lean); close each card by the builder's one call (the guide's Derived/Test/ToyasCard.lean, 'card_holds'). Laid BY PROGRAM, IN A SANDBOX (cutbox-door.mjs). By AI agents, Wed Nov 11 2026. No macro, syntax, notation, axiom, sorry.
-/
import Derived.Test.YbulkeimFmtRows
import GoSem.ClaimSeven
namespace Go.Proofs.YbulkeimFmt
namespace Rows

/-- THE TOLD CARD OF 'engine.LawS0259CFirstWins'. -/
def lawS0259CFirstWinsCard : Claim7 := { stood := { row := lawS0259CFirstWinsRow, standIns := [], harness := (true, "52e402b7581f48d0f1575f77d97cc572648de444c05019af0ba49d276428f1e5"), looks := true }, told := true, goes := false }
def LawS0259CFirstWinsToldSaid : Prop := Claim7.holds Ybaf.pinned (.plain (OpenSpec.ofChange lawS0259CFirstWinsSpec)) lawS0259CFirstWinsCard
/-- ITS FALSE NEIGHBOUR. Refute it at one input. -/
def LawS0259CFirstWinsToldWrongFalsely : Prop := Claim7.holds Ybaf.pinned (.plain (OpenSpec.ofChange lawS0259CFirstWinsWrong)) lawS0259CFirstWinsCard

/-- THE TOLD CARD OF 'engine.LawS0259CKeepsPreset'. -/
def lawS0259CKeepsPresetCard : Claim7 := { stood := { row := lawS0259CKeepsPresetRow, standIns := [], harness := (true, "52e402b7581f48d0f1575f77d97cc572648de444c05019af0ba49d276428f1e5"), looks := true }, told := true, goes := false }
def LawS0259CKeepsPresetToldSaid : Prop := Claim7.holds Ybaf.pinned (.plain (OpenSpec.ofChange lawS0259CKeepsPresetSpec)) lawS0259CKeepsPresetCard
/-- ITS FALSE NEIGHBOUR. Refute it at one input. -/
def LawS0259CKeepsPresetToldWrongFalsely : Prop := Claim7.holds Ybaf.pinned (.plain (OpenSpec.ofChange lawS0259CKeepsPresetWrong)) lawS0259CKeepsPresetCard

/-- THE TOLD CARD OF 'engine.LawS0259CSkipIntFails'. -/
def lawS0259CSkipIntFailsCard : Claim7 := { stood := { row := lawS0259CSkipIntFailsRow, standIns := [], harness := (true, "52e402b7581f48d0f1575f77d97cc572648de444c05019af0ba49d276428f1e5"), looks := true }, told := true, goes := false }
def LawS0259CSkipIntFailsToldSaid : Prop := Claim7.holds Ybaf.pinned (.plain (OpenSpec.ofChange lawS0259CSkipIntFailsSpec)) lawS0259CSkipIntFailsCard
/-- ITS FALSE NEIGHBOUR. Refute it at one input. -/
def LawS0259CSkipIntFailsToldWrongFalsely : Prop := Claim7.holds Ybaf.pinned (.plain (OpenSpec.ofChange lawS0259CSkipIntFailsWrong)) lawS0259CSkipIntFailsCard
end Rows
end Go.Proofs.YbulkeimFmt
