/-
  No cell of these rows narrows 'for every input' (looked for: loops, veiled, ifaces, maps, wideKeys, modest, calm, conditions, laid).
  DERIVED. THE GIVEN ROWS OF THIS SEAT. 3 by the template 'for every input the law returns true; each argument reads behind the call as it read before'; 0 by the template 'total and deterministic' (their statements: YbulkegwTotals.lean).
  GIVEN WITH THE SEED: the statements are not yours to turn. If you find one false, say at which input.
  Laid BY PROGRAM, IN A SANDBOX (cutbox-rows.mjs): the forced cells as the released guide's own fill.sh prints them over the translation 1ee1eb7436f217d2… (all of the seat's roots in one cut). By AI agents, Wed Nov 11 2026. No macro, syntax, notation, axiom, sorry.
-/
import Derived.Test.YbulkegwChecked
import GoSem.Claim
import GoSem.ClaimJoined
import GoSem.ClaimMapViews
import Derived.JoinedTies
import Derived.KernelRfl
namespace Go.Proofs.Ybulkegw
/- THE CELL 'sum', in the pinned program and in every row, IS THE sha256 OF THE DUMP (.gsa) THAT YbulkegwProg.lean LOADS. Nothing in Lean hashes anything: it is a label: what it is worth is what the hold of that sum in a sandbox is worth. -/
noncomputable def Yba.pinned : Pinned := { name := "ybulkegw", sum := "1ee1eb7436f217d299bb1a36995227e213b417263dee0abd924d06737351a61f", checked := Yba.checked }
namespace Rows
def none {H : Type} : Left H := { results := [], args := [] }

/-- 'iptables.LawS0256BRoundTrip': WHATEVER THE INPUT: true; the input reads as it did. -/
def lawS0256BRoundTripSpec : ChangeSpec := { name := "lawS0256BRoundTrip", fn := fun _ => fun
  | [d1, d2] => { results := [.lit (.bool true)], args := [d1, d2] }
  | _ => none }
def lawS0256BRoundTripRow : OpenClaim := { program := "ybulkegw", sum := "1ee1eb7436f217d299bb1a36995227e213b417263dee0abd924d06737351a61f", func := "example.com/rulelint/rulelint/pkg/iptables.LawS0256BRoundTrip", spec := "lawS0256BRoundTrip", apart := false }
def LawS0256BRoundTripSaid : Prop := lawS0256BRoundTripRow.holds Yba.pinned (OpenSpec.ofChange lawS0256BRoundTripSpec)

/-- ITS FALSE NEIGHBOUR: 'it returns false'. Refute it at one input. -/
def lawS0256BRoundTripWrong : ChangeSpec := { name := "lawS0256BRoundTrip", fn := fun _ => fun
  | [d1, d2] => { results := [.lit (.bool false)], args := [d1, d2] }
  | _ => none }
def LawS0256BRoundTripWrongFalsely : Prop := lawS0256BRoundTripRow.holds Yba.pinned (OpenSpec.ofChange lawS0256BRoundTripWrong)

/-- 'iptables.LawS0256BPlain': WHATEVER THE INPUT: true; the input reads as it did. -/
def lawS0256BPlainSpec : ChangeSpec := { name := "lawS0256BPlain", fn := fun _ => fun
  | [d] => { results := [.lit (.bool true)], args := [d] }
  | _ => none }
def lawS0256BPlainRow : OpenClaim := { program := "ybulkegw", sum := "1ee1eb7436f217d299bb1a36995227e213b417263dee0abd924d06737351a61f", func := "example.com/rulelint/rulelint/pkg/iptables.LawS0256BPlain", spec := "lawS0256BPlain", apart := false }
def LawS0256BPlainSaid : Prop := lawS0256BPlainRow.holds Yba.pinned (OpenSpec.ofChange lawS0256BPlainSpec)

/-- ITS FALSE NEIGHBOUR: 'it returns false'. Refute it at one input. -/
def lawS0256BPlainWrong : ChangeSpec := { name := "lawS0256BPlain", fn := fun _ => fun
  | [d] => { results := [.lit (.bool false)], args := [d] }
  | _ => none }
def LawS0256BPlainWrongFalsely : Prop := lawS0256BPlainRow.holds Yba.pinned (OpenSpec.ofChange lawS0256BPlainWrong)

/-- 'iptables.LawS0256BUnclosed': WHATEVER THE INPUT: true; the input reads as it did. -/
def lawS0256BUnclosedSpec : ChangeSpec := { name := "lawS0256BUnclosed", fn := fun _ => fun
  | [d1, d2, d3] => { results := [.lit (.bool true)], args := [d1, d2, d3] }
  | _ => none }
def lawS0256BUnclosedRow : OpenClaim := { program := "ybulkegw", sum := "1ee1eb7436f217d299bb1a36995227e213b417263dee0abd924d06737351a61f", func := "example.com/rulelint/rulelint/pkg/iptables.LawS0256BUnclosed", spec := "lawS0256BUnclosed", apart := false }
def LawS0256BUnclosedSaid : Prop := lawS0256BUnclosedRow.holds Yba.pinned (OpenSpec.ofChange lawS0256BUnclosedSpec)

/-- ITS FALSE NEIGHBOUR: 'it returns false'. Refute it at one input. -/
def lawS0256BUnclosedWrong : ChangeSpec := { name := "lawS0256BUnclosed", fn := fun _ => fun
  | [d1, d2, d3] => { results := [.lit (.bool false)], args := [d1, d2, d3] }
  | _ => none }
def LawS0256BUnclosedWrongFalsely : Prop := lawS0256BUnclosedRow.holds Yba.pinned (OpenSpec.ofChange lawS0256BUnclosedWrong)

end Rows
end Go.Proofs.Ybulkegw
