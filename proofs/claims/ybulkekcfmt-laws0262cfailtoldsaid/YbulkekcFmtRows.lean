/-
  NARROWER THAN 'FOR EVERY INPUT', by the rows' own cells (each row's printed sentence says how): LawS0262CVersion: laid · LawS0262CFail: laid.
  DERIVED. THE GIVEN ROWS OF THIS SEAT. 4 by the template 'for every input the law returns true; each argument reads behind the call as it read before'; 0 by the template 'total and deterministic' (their statements: YbulkekcFmtTotals.lean).
  GIVEN WITH THE SEED: the statements are not yours to turn. If you find one false, say at which input.
  Laid BY PROGRAM, IN A SANDBOX (cutbox-rows.mjs): the forced cells as the released guide's own fill.sh prints them over the translation 914fb5ba9d11a11f… (all of the seat's roots in one cut). By AI agents, Wed Nov 11 2026. No macro, syntax, notation, axiom, sorry.
-/
import Derived.Test.YbulkekcFmtChecked
import GoSem.Claim
import GoSem.ClaimJoined
import GoSem.ClaimMapViews
import Derived.JoinedTies
import Derived.KernelRfl
namespace Go.Proofs.YbulkekcFmt
/- THE CELL 'sum', in the pinned program and in every row, IS THE sha256 OF THE DUMP (.gsa) THAT YbulkekcFmtProg.lean LOADS. Nothing in Lean hashes anything: it is a label: what it is worth is what the hold of that sum in a sandbox is worth. -/
noncomputable def Ybaf.pinned : Pinned := { name := "ybulkekcfmt", sum := "914fb5ba9d11a11f872592d8d4ce280c2b39743228360bbe2f941cc4a7894bf5", checked := Ybaf.checked }
namespace Rows
def none {H : Type} : Left H := { results := [], args := [] }

/- WHAT THE LISTED PACKAGE-LEVEL VARIABLES READ AS WHEN THE CALL BEGINS. Each datum BY PROGRAM (the guide's laid-datum.mjs) off the statement by which the dump's own 'gosem.cut.vars' lays the variable. In a bare row this is a premise. The card (YbulkekcFmtCards.lean) ties it to the program's text. -/
def laid_errors_errorType {H : Type} : DataW H := .iface "internal/reflectlite.rtype" (.agg [.ptr (.lit (.string [101, 114, 114, 111, 114]))])
def laid_io_EOF {H : Type} : DataW H := .iface "*errors.errorString" (.ptr (.agg [.lit (.string [69, 79, 70])]))

/-- 'calendar.LawS0262AExact': WHATEVER THE INPUT: true; the input reads as it did. -/
def lawS0262AExactSpec : ChangeSpec := { name := "lawS0262AExact", fn := fun _ => fun
  | [d1, d2] => { results := [.lit (.bool true)], args := [d1, d2] }
  | _ => none }
def lawS0262AExactRow : OpenClaim := { program := "ybulkekcfmt", sum := "914fb5ba9d11a11f872592d8d4ce280c2b39743228360bbe2f941cc4a7894bf5", func := "example.com/tuoguan-kit/tuoguan-kit/calendar.LawS0262AExact", spec := "lawS0262AExact", stops := ["fmt.errorf, its operands' methods called"], inPlace := ["fmt.errorf"], unfollowed := true, recurses := true, apart := false }
/-- NO THEOREM (fmt's text is open here; it may be false): for the released tool's asking of the row's closed facts alone. THE STATEMENT IS 'LawS0262AExactToldSaid' (YbulkekcFmtCards.lean). -/
def LawS0262AExactFormAsk : Prop := lawS0262AExactRow.holds Ybaf.pinned (OpenSpec.ofChange lawS0262AExactSpec)

/-- ITS FALSE NEIGHBOUR: 'it returns false'. Refute it at one input. -/
def lawS0262AExactWrong : ChangeSpec := { name := "lawS0262AExact", fn := fun _ => fun
  | [d1, d2] => { results := [.lit (.bool false)], args := [d1, d2] }
  | _ => none }
def LawS0262AExactWrongFormAsk : Prop := lawS0262AExactRow.holds Ybaf.pinned (OpenSpec.ofChange lawS0262AExactWrong)

/-- 'calendar.LawS0262ARoundTrip': WHATEVER THE INPUT: true; the input reads as it did. -/
def lawS0262ARoundTripSpec : ChangeSpec := { name := "lawS0262ARoundTrip", fn := fun _ => fun
  | [d] => { results := [.lit (.bool true)], args := [d] }
  | _ => none }
def lawS0262ARoundTripRow : OpenClaim := { program := "ybulkekcfmt", sum := "914fb5ba9d11a11f872592d8d4ce280c2b39743228360bbe2f941cc4a7894bf5", func := "example.com/tuoguan-kit/tuoguan-kit/calendar.LawS0262ARoundTrip", spec := "lawS0262ARoundTrip", stops := ["fmt.errorf, its operands' methods called"], inPlace := ["fmt.errorf"], unfollowed := true, recurses := true, apart := false }
/-- NO THEOREM (fmt's text is open here; it may be false): for the released tool's asking of the row's closed facts alone. THE STATEMENT IS 'LawS0262ARoundTripToldSaid' (YbulkekcFmtCards.lean). -/
def LawS0262ARoundTripFormAsk : Prop := lawS0262ARoundTripRow.holds Ybaf.pinned (OpenSpec.ofChange lawS0262ARoundTripSpec)

/-- ITS FALSE NEIGHBOUR: 'it returns false'. Refute it at one input. -/
def lawS0262ARoundTripWrong : ChangeSpec := { name := "lawS0262ARoundTrip", fn := fun _ => fun
  | [d] => { results := [.lit (.bool false)], args := [d] }
  | _ => none }
def LawS0262ARoundTripWrongFormAsk : Prop := lawS0262ARoundTripRow.holds Ybaf.pinned (OpenSpec.ofChange lawS0262ARoundTripWrong)

/-- 'journal.LawS0262CVersion': WHATEVER THE INPUT: true; the input reads as it did. -/
def lawS0262CVersionSpec : ChangeSpec := { name := "lawS0262CVersion", fn := fun _ => fun
  | [d1, d2, d3, d4, d5] => { results := [.lit (.bool true)], args := [d1, d2, d3, d4, d5] }
  | _ => none }
def lawS0262CVersionRow : OpenClaim := { program := "ybulkekcfmt", sum := "914fb5ba9d11a11f872592d8d4ce280c2b39743228360bbe2f941cc4a7894bf5", func := "example.com/tuoguan-kit/tuoguan-kit/journal.LawS0262CVersion", spec := "lawS0262CVersion", stops := ["fmt.errorf, its operands' methods called"], inPlace := ["internal/reflectlite.ValueOf", "(internal/reflectlite.Value).Type", "(internal/reflectlite.Value).IsNil", "internal/reflectlite.TypeOf", "(internal/reflectlite.Value).Elem", "(internal/reflectlite.Value).Set", "fmt.errorf"], unfollowed := true, recurses := true, named := ["io.EOF", "errors.errorType"], apart := false, laid := [("errors.errorType", laid_errors_errorType), ("io.EOF", laid_io_EOF)] }
/-- NO THEOREM (fmt's text is open here; it may be false): for the released tool's asking of the row's closed facts alone. THE STATEMENT IS 'LawS0262CVersionToldSaid' (YbulkekcFmtCards.lean). -/
def LawS0262CVersionFormAsk : Prop := lawS0262CVersionRow.holds Ybaf.pinned (OpenSpec.ofChange lawS0262CVersionSpec)

/-- ITS FALSE NEIGHBOUR: 'it returns false'. Refute it at one input. -/
def lawS0262CVersionWrong : ChangeSpec := { name := "lawS0262CVersion", fn := fun _ => fun
  | [d1, d2, d3, d4, d5] => { results := [.lit (.bool false)], args := [d1, d2, d3, d4, d5] }
  | _ => none }
def LawS0262CVersionWrongFormAsk : Prop := lawS0262CVersionRow.holds Ybaf.pinned (OpenSpec.ofChange lawS0262CVersionWrong)

/-- 'journal.LawS0262CFail': WHATEVER THE INPUT: true; the input reads as it did. -/
def lawS0262CFailSpec : ChangeSpec := { name := "lawS0262CFail", fn := fun _ => fun
  | [d] => { results := [.lit (.bool true)], args := [d] }
  | _ => none }
def lawS0262CFailRow : OpenClaim := { program := "ybulkekcfmt", sum := "914fb5ba9d11a11f872592d8d4ce280c2b39743228360bbe2f941cc4a7894bf5", func := "example.com/tuoguan-kit/tuoguan-kit/journal.LawS0262CFail", spec := "lawS0262CFail", stops := ["fmt.errorf, its operands' methods called"], inPlace := ["internal/reflectlite.ValueOf", "(internal/reflectlite.Value).Type", "(internal/reflectlite.Value).IsNil", "internal/reflectlite.TypeOf", "(internal/reflectlite.Value).Elem", "(internal/reflectlite.Value).Set", "fmt.errorf"], unfollowed := true, recurses := true, named := ["io.EOF", "errors.errorType"], apart := false, laid := [("errors.errorType", laid_errors_errorType), ("io.EOF", laid_io_EOF)] }
/-- NO THEOREM (fmt's text is open here; it may be false): for the released tool's asking of the row's closed facts alone. THE STATEMENT IS 'LawS0262CFailToldSaid' (YbulkekcFmtCards.lean). -/
def LawS0262CFailFormAsk : Prop := lawS0262CFailRow.holds Ybaf.pinned (OpenSpec.ofChange lawS0262CFailSpec)

/-- ITS FALSE NEIGHBOUR: 'it returns false'. Refute it at one input. -/
def lawS0262CFailWrong : ChangeSpec := { name := "lawS0262CFail", fn := fun _ => fun
  | [d] => { results := [.lit (.bool false)], args := [d] }
  | _ => none }
def LawS0262CFailWrongFormAsk : Prop := lawS0262CFailRow.holds Ybaf.pinned (OpenSpec.ofChange lawS0262CFailWrong)

end Rows
end Go.Proofs.YbulkekcFmt
