/-
  No cell of these rows narrows 'for every input' (looked for: loops, veiled, ifaces, maps, wideKeys, modest, calm, conditions, laid).
  DERIVED. THE GIVEN ROWS OF THIS SEAT. 3 by the template 'for every input the law returns true; each argument reads behind the call as it read before'; 0 by the template 'total and deterministic' (their statements: YbulkeimFmtTotals.lean).
  GIVEN WITH THE SEED: the statements are not yours to turn. If you find one false, say at which input.
  Laid BY PROGRAM, IN A SANDBOX (cutbox-rows.mjs): the forced cells as the released guide's own fill.sh prints them over the translation 203eb8812d502273… (all of the seat's roots in one cut). By AI agents, Wed Nov 11 2026. No macro, syntax, notation, axiom, sorry.
-/
import Derived.Test.YbulkeimFmtChecked
import GoSem.Claim
import GoSem.ClaimJoined
import GoSem.ClaimMapViews
import Derived.JoinedTies
import Derived.KernelRfl
namespace Go.Proofs.YbulkeimFmt
/- THE CELL 'sum', in the pinned program and in every row, IS THE sha256 OF THE DUMP (.gsa) THAT YbulkeimFmtProg.lean LOADS. Nothing in Lean hashes anything: it is a label: what it is worth is what the hold of that sum in a sandbox is worth. -/
noncomputable def Ybaf.pinned : Pinned := { name := "ybulkeimfmt", sum := "203eb8812d50227356e4e3c6ac1ab2a74e236e246d26c57123ffb582fbcc7540", checked := Ybaf.checked }
namespace Rows
def none {H : Type} : Left H := { results := [], args := [] }

/-- 'engine.LawS0259CFirstWins': WHATEVER THE INPUT: true; the input reads as it did. -/
def lawS0259CFirstWinsSpec : ChangeSpec := { name := "lawS0259CFirstWins", fn := fun _ => fun
  | [d1, d2, d3, d4, d5] => { results := [.lit (.bool true)], args := [d1, d2, d3, d4, d5] }
  | _ => none }
def lawS0259CFirstWinsRow : OpenClaim := { program := "ybulkeimfmt", sum := "203eb8812d50227356e4e3c6ac1ab2a74e236e246d26c57123ffb582fbcc7540", func := "example.com/retrovue/retrovue/internal/engine.LawS0259CFirstWins", spec := "lawS0259CFirstWins", stops := ["fmt.errorf"], inPlace := ["fmt.errorf"], apart := false }
/-- NO THEOREM (fmt's text is open here; it may be false): for the released tool's asking of the row's closed facts alone. THE STATEMENT IS 'LawS0259CFirstWinsToldSaid' (YbulkeimFmtCards.lean). -/
def LawS0259CFirstWinsFormAsk : Prop := lawS0259CFirstWinsRow.holds Ybaf.pinned (OpenSpec.ofChange lawS0259CFirstWinsSpec)

/-- ITS FALSE NEIGHBOUR: 'it returns false'. Refute it at one input. -/
def lawS0259CFirstWinsWrong : ChangeSpec := { name := "lawS0259CFirstWins", fn := fun _ => fun
  | [d1, d2, d3, d4, d5] => { results := [.lit (.bool false)], args := [d1, d2, d3, d4, d5] }
  | _ => none }
def LawS0259CFirstWinsWrongFormAsk : Prop := lawS0259CFirstWinsRow.holds Ybaf.pinned (OpenSpec.ofChange lawS0259CFirstWinsWrong)

/-- 'engine.LawS0259CKeepsPreset': WHATEVER THE INPUT: true; the input reads as it did. -/
def lawS0259CKeepsPresetSpec : ChangeSpec := { name := "lawS0259CKeepsPreset", fn := fun _ => fun
  | [d1, d2, d3, d4] => { results := [.lit (.bool true)], args := [d1, d2, d3, d4] }
  | _ => none }
def lawS0259CKeepsPresetRow : OpenClaim := { program := "ybulkeimfmt", sum := "203eb8812d50227356e4e3c6ac1ab2a74e236e246d26c57123ffb582fbcc7540", func := "example.com/retrovue/retrovue/internal/engine.LawS0259CKeepsPreset", spec := "lawS0259CKeepsPreset", stops := ["fmt.errorf"], inPlace := ["fmt.errorf"], apart := false }
/-- NO THEOREM (fmt's text is open here; it may be false): for the released tool's asking of the row's closed facts alone. THE STATEMENT IS 'LawS0259CKeepsPresetToldSaid' (YbulkeimFmtCards.lean). -/
def LawS0259CKeepsPresetFormAsk : Prop := lawS0259CKeepsPresetRow.holds Ybaf.pinned (OpenSpec.ofChange lawS0259CKeepsPresetSpec)

/-- ITS FALSE NEIGHBOUR: 'it returns false'. Refute it at one input. -/
def lawS0259CKeepsPresetWrong : ChangeSpec := { name := "lawS0259CKeepsPreset", fn := fun _ => fun
  | [d1, d2, d3, d4] => { results := [.lit (.bool false)], args := [d1, d2, d3, d4] }
  | _ => none }
def LawS0259CKeepsPresetWrongFormAsk : Prop := lawS0259CKeepsPresetRow.holds Ybaf.pinned (OpenSpec.ofChange lawS0259CKeepsPresetWrong)

/-- 'engine.LawS0259CSkipIntFails': WHATEVER THE INPUT: true; the input reads as it did. -/
def lawS0259CSkipIntFailsSpec : ChangeSpec := { name := "lawS0259CSkipIntFails", fn := fun _ => fun
  | [d1, d2, d3, d4] => { results := [.lit (.bool true)], args := [d1, d2, d3, d4] }
  | _ => none }
def lawS0259CSkipIntFailsRow : OpenClaim := { program := "ybulkeimfmt", sum := "203eb8812d50227356e4e3c6ac1ab2a74e236e246d26c57123ffb582fbcc7540", func := "example.com/retrovue/retrovue/internal/engine.LawS0259CSkipIntFails", spec := "lawS0259CSkipIntFails", stops := ["fmt.errorf"], inPlace := ["fmt.errorf"], apart := false }
/-- NO THEOREM (fmt's text is open here; it may be false): for the released tool's asking of the row's closed facts alone. THE STATEMENT IS 'LawS0259CSkipIntFailsToldSaid' (YbulkeimFmtCards.lean). -/
def LawS0259CSkipIntFailsFormAsk : Prop := lawS0259CSkipIntFailsRow.holds Ybaf.pinned (OpenSpec.ofChange lawS0259CSkipIntFailsSpec)

/-- ITS FALSE NEIGHBOUR: 'it returns false'. Refute it at one input. -/
def lawS0259CSkipIntFailsWrong : ChangeSpec := { name := "lawS0259CSkipIntFails", fn := fun _ => fun
  | [d1, d2, d3, d4] => { results := [.lit (.bool false)], args := [d1, d2, d3, d4] }
  | _ => none }
def LawS0259CSkipIntFailsWrongFormAsk : Prop := lawS0259CSkipIntFailsRow.holds Ybaf.pinned (OpenSpec.ofChange lawS0259CSkipIntFailsWrong)

end Rows
end Go.Proofs.YbulkeimFmt
