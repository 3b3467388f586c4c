/-
  DERIVED. GIVEN WITH THE SEED: THE CARDS: each row of YbulkekcFmtRows.lean that lists a variable, with what it lists TIED to the program's text (the seventh form; the later family's looks); each row that meets fmt, with fmt's text TOLD by the authors' own Lean function (tested against real Go, not proved from fmt's source: count such statements apart). THE CARD IS WHAT COUNTS. Prove the row's statement (the work); the ties are given (YbulkekcFmtTie.lean); close each card by the builder's one call (the guide's Derived/Test/ToyasCard.lean, 'card_holds'). Laid BY PROGRAM, IN A SANDBOX (cutbox-door.mjs). By AI agents, Wed Nov 11 2026. No macro, syntax, notation, axiom, sorry.
-/
import Derived.Test.YbulkekcFmtRows
import GoSem.ClaimSeven
namespace Go.Proofs.YbulkekcFmt
namespace Rows

/-- THE TOLD CARD OF 'calendar.LawS0262AExact'. -/
def lawS0262AExactCard : Claim7 := { stood := { row := lawS0262AExactRow, standIns := [], harness := (true, "a07d9474d28bfeb20b7ea6bf7c4befbdb5102d01232ed41da716ae8441b0db9f"), looks := true }, told := true, goes := false }
def LawS0262AExactToldSaid : Prop := Claim7.holds Ybaf.pinned (.plain (OpenSpec.ofChange lawS0262AExactSpec)) lawS0262AExactCard
/-- ITS FALSE NEIGHBOUR. Refute it at one input. -/
def LawS0262AExactToldWrongFalsely : Prop := Claim7.holds Ybaf.pinned (.plain (OpenSpec.ofChange lawS0262AExactWrong)) lawS0262AExactCard

/-- THE TOLD CARD OF 'calendar.LawS0262ARoundTrip'. -/
def lawS0262ARoundTripCard : Claim7 := { stood := { row := lawS0262ARoundTripRow, standIns := [], harness := (true, "a07d9474d28bfeb20b7ea6bf7c4befbdb5102d01232ed41da716ae8441b0db9f"), looks := true }, told := true, goes := false }
def LawS0262ARoundTripToldSaid : Prop := Claim7.holds Ybaf.pinned (.plain (OpenSpec.ofChange lawS0262ARoundTripSpec)) lawS0262ARoundTripCard
/-- ITS FALSE NEIGHBOUR. Refute it at one input. -/
def LawS0262ARoundTripToldWrongFalsely : Prop := Claim7.holds Ybaf.pinned (.plain (OpenSpec.ofChange lawS0262ARoundTripWrong)) lawS0262ARoundTripCard

/-- THE TOLD AND TIED CARD OF 'journal.LawS0262CVersion'. -/
def lawS0262CVersionCard : Claim7 := { stood := { row := lawS0262CVersionRow, standIns := [], harness := (true, "a07d9474d28bfeb20b7ea6bf7c4befbdb5102d01232ed41da716ae8441b0db9f"), looks := true }, told := true, laidByText := true, laidKinds := [.handle, .sentinel], laidTests := true, laidLooks := .later, goes := false }
def LawS0262CVersionToldSaid : Prop := Claim7.holds Ybaf.pinned (.plain (OpenSpec.ofChange lawS0262CVersionSpec)) lawS0262CVersionCard
/-- ITS FALSE NEIGHBOUR. Refute it at one input. -/
def LawS0262CVersionToldWrongFalsely : Prop := Claim7.holds Ybaf.pinned (.plain (OpenSpec.ofChange lawS0262CVersionWrong)) lawS0262CVersionCard

/-- THE TOLD AND TIED CARD OF 'journal.LawS0262CFail'. -/
def lawS0262CFailCard : Claim7 := { stood := { row := lawS0262CFailRow, standIns := [], harness := (true, "a07d9474d28bfeb20b7ea6bf7c4befbdb5102d01232ed41da716ae8441b0db9f"), looks := true }, told := true, laidByText := true, laidKinds := [.handle, .sentinel], laidTests := true, laidLooks := .later, goes := false }
def LawS0262CFailToldSaid : Prop := Claim7.holds Ybaf.pinned (.plain (OpenSpec.ofChange lawS0262CFailSpec)) lawS0262CFailCard
/-- ITS FALSE NEIGHBOUR. Refute it at one input. -/
def LawS0262CFailToldWrongFalsely : Prop := Claim7.holds Ybaf.pinned (.plain (OpenSpec.ofChange lawS0262CFailWrong)) lawS0262CFailCard
end Rows
end Go.Proofs.YbulkekcFmt
