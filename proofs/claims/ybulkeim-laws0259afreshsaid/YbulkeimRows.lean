/-
  No cell of these rows narrows 'for every input' (looked for: loops, veiled, ifaces, maps, wideKeys, modest, calm, conditions, laid).
  DERIVED. THE GIVEN ROWS OF THIS SEAT. 2 by the template 'for every input the law returns true; each argument reads behind the call as it read before'; 0 by the template 'total and deterministic' (their statements: YbulkeimTotals.lean).
  GIVEN WITH THE SEED: the statements are not yours to turn. If you find one false, say at which input.
  Laid BY PROGRAM, IN A SANDBOX (cutbox-rows.mjs): the forced cells as the released guide's own fill.sh prints them over the translation b50afa4cc62456d2… (all of the seat's roots in one cut). By AI agents, Wed Nov 11 2026. No macro, syntax, notation, axiom, sorry.
-/
import Derived.Test.YbulkeimChecked
import GoSem.Claim
import GoSem.ClaimJoined
import GoSem.ClaimMapViews
import Derived.JoinedTies
import Derived.KernelRfl
namespace Go.Proofs.Ybulkeim
/- THE CELL 'sum', in the pinned program and in every row, IS THE sha256 OF THE DUMP (.gsa) THAT YbulkeimProg.lean LOADS. Nothing in Lean hashes anything: it is a label: what it is worth is what the hold of that sum in a sandbox is worth. -/
noncomputable def Yba.pinned : Pinned := { name := "ybulkeim", sum := "b50afa4cc62456d2ee5dab7dbee96731e4a896fbda891e496e3e2abd5b9225bd", checked := Yba.checked }
namespace Rows
def none {H : Type} : Left H := { results := [], args := [] }

/-- 'engine.LawS0259AFresh': WHATEVER THE INPUT: true; the input reads as it did. -/
def lawS0259AFreshSpec : ChangeSpec := { name := "lawS0259AFresh", fn := fun _ => fun
  | [d1, d2] => { results := [.lit (.bool true)], args := [d1, d2] }
  | _ => none }
def lawS0259AFreshRow : OpenClaim := { program := "ybulkeim", sum := "b50afa4cc62456d2ee5dab7dbee96731e4a896fbda891e496e3e2abd5b9225bd", func := "example.com/retrovue/retrovue/internal/engine.LawS0259AFresh", spec := "lawS0259AFresh", apart := false }
def LawS0259AFreshSaid : Prop := lawS0259AFreshRow.holds Yba.pinned (OpenSpec.ofChange lawS0259AFreshSpec)

/-- ITS FALSE NEIGHBOUR: 'it returns false'. Refute it at one input. -/
def lawS0259AFreshWrong : ChangeSpec := { name := "lawS0259AFresh", fn := fun _ => fun
  | [d1, d2] => { results := [.lit (.bool false)], args := [d1, d2] }
  | _ => none }
def LawS0259AFreshWrongFalsely : Prop := lawS0259AFreshRow.holds Yba.pinned (OpenSpec.ofChange lawS0259AFreshWrong)

/-- 'engine.LawS0259ADistinct': WHATEVER THE INPUT: true; the input reads as it did. -/
def lawS0259ADistinctSpec : ChangeSpec := { name := "lawS0259ADistinct", fn := fun _ => fun
  | [d1, d2] => { results := [.lit (.bool true)], args := [d1, d2] }
  | _ => none }
def lawS0259ADistinctRow : OpenClaim := { program := "ybulkeim", sum := "b50afa4cc62456d2ee5dab7dbee96731e4a896fbda891e496e3e2abd5b9225bd", func := "example.com/retrovue/retrovue/internal/engine.LawS0259ADistinct", spec := "lawS0259ADistinct", apart := false }
def LawS0259ADistinctSaid : Prop := lawS0259ADistinctRow.holds Yba.pinned (OpenSpec.ofChange lawS0259ADistinctSpec)

/-- ITS FALSE NEIGHBOUR: 'it returns false'. Refute it at one input. -/
def lawS0259ADistinctWrong : ChangeSpec := { name := "lawS0259ADistinct", fn := fun _ => fun
  | [d1, d2] => { results := [.lit (.bool false)], args := [d1, d2] }
  | _ => none }
def LawS0259ADistinctWrongFalsely : Prop := lawS0259ADistinctRow.holds Yba.pinned (OpenSpec.ofChange lawS0259ADistinctWrong)

end Rows
end Go.Proofs.Ybulkeim
