/-
  WHAT THE TWO LISTED VARIABLES (io.EOF, errors.errorType) GIVE A WALK, AND A WORLD IN WHICH THEY STAND AS LISTED (the rows' witness).
-/
import Derived.Test.YbulkekcFmtVersionParts
import Derived.Test.YbulkekcFmtRows
import Derived.ProofKit
import Derived.OpenShut
import Derived.LaidLaws
import Derived.LaidHandle
import Derived.Stop.LaidErr
namespace Go.Proofs.YbulkekcFmt
open Go.ChangeShapes Go.WideShapes Go.RowKit

theorem own : ownKnob Ybaf.prog.godebug = none := by kernel_rfl
theorem laidOut : laidOutB Ybaf.pinned.checked.prog = true := by kernel_rfl
theorem eofG : Ybaf.prog.globalNamed "io.EOF" = some 0 := by kernel_rfl
theorem etG : Ybaf.prog.globalNamed "errors.errorType" = some 1 := by kernel_rfl
theorem oneRow : ((List.range 126).filter fun t => Ybaf.prog.rowNamed t [101, 114, 114, 111, 114]) = [25] := by kernel_rfl
theorem typesSize : Ybaf.prog.types.size = 126 := by kernel_rfl
/-- The listed name of io.EOF's dynamic type: the pointer to errors.errorString. -/
def eofName : String := match (Rows.laid_io_EOF : DataW Unit) with
  | .iface n _ => n
  | _ => ""
theorem star (a : String) (h : a = String.singleton (Char.ofNat 42)) : a ++ "errors.errorString" = eofName := by
  subst h
  decide
theorem row51 (u : TypeId) (h : Ybaf.prog.typeName? 3 u = some eofName) : u = 51 := by
  refine typeName_ptr_named (nm := "errors.errorString") ?_ (by kernel_rfl) (by decide) u (h.trans (congrArg some (star _ (by decide)).symm))
  rw [star _ (by decide)]
  kernel_rfl

abbrev theLaid : List (String × DataW Unit) := [("errors.errorType", Rows.laid_errors_errorType), ("io.EOF", Rows.laid_io_EOF)]

theorem laid_parts {W : World} (h : laidMetH Ybaf.prog theLaid W) : laidMet Ybaf.prog [("io.EOF", Rows.laid_io_EOF)] W ∧ handlesMet Ybaf.prog [("errors.errorType", Rows.laid_errors_errorType)] W := h

/-- errors.errorType's one cell. -/
theorem handle_of_laid {W : World} (h : laidMetH Ybaf.prog theLaid W) : W.cell? ⟨1, 0, none⟩ = some (.iface 67 (.agg #[.pointer (some ⟨2, 25, none⟩)])) := by
  obtain ⟨name, u, ty, e1, e2, e3, e4, e5⟩ := (laid_parts h).2 _ (List.mem_singleton.2 rfl)
  have en : name = [101, 114, 114, 111, 114] := (Option.some.inj e1).symm
  subst en
  have e67 : some u = some 67 := e2.symm.trans (by kernel_rfl)
  obtain rfl := Option.some.inj e67
  have hm : ty ∈ (List.range 126).filter fun t => Ybaf.prog.rowNamed t [101, 114, 114, 111, 114] := List.mem_filter.2 ⟨List.mem_range.2 (by rw [← typesSize]; exact e3), e4⟩
  rw [oneRow] at hm
  obtain rfl := List.mem_singleton.1 hm
  have hh : typeHandle Ybaf.prog 25 = .pointer (some ⟨2, 25, none⟩) := by kernel_rfl
  rw [hh] at e5
  simpa using World.var?_cell etG e5 0

/-- io.EOF's one cell: a pointer to a text. -/
theorem eof_of_laid {W : World} (h : laidMetH Ybaf.prog theLaid W) : ∃ (q : Addr) (s : ByteArray), W.cell? ⟨0, 0, none⟩ = some (.iface 51 (.pointer (some q))) ∧ W.cell? q = some (.string s) := by
  obtain ⟨q, s, hv, hc, _, _⟩ := laid_sentinel (g := 0) (ti := 25) (te := 53) (ts := 9) (laid_parts h).1 eofG (by kernel_rfl) Ybaf.underlying25 row51 under51 Ybaf.underlying53 rfl rfl Ybaf.underlying9 (by kernel_rfl) (by kernel_rfl)
  exact ⟨q, s, by simpa using World.var?_cell eofG hv 0, hc⟩

/-- A world that meets the condition: the settled one, the two variables' cells laid, io.EOF's text in a block behind. -/
def laidOf (P : Program) (os : Os) : World :=
  let w0 := World.holding P os ⟨#[.cells #[.string ⟨#[69, 79, 70]⟩] 53], #[], []⟩
  { w0 with heap := (w0.heap.modify 0 fun
      | .cells _ t frozen => .cells #[.iface 51 (.pointer (some ⟨7, 0, none⟩))] t frozen
      | o => o).modify 1 fun
      | .cells _ t frozen => .cells #[.iface 67 (.agg #[.pointer (some ⟨2, 25, none⟩)])] t frozen
      | o => o }
theorem laidOf_met (os : Os) (args : Array Value) : laidMetH Ybaf.prog theLaid ((laidOf Ybaf.prog os).forCall (fun _ _ => 0) ⟨#[], args, []⟩).memory :=
  laidMetH_of_parts (laidMet_of_run (ps := [.cell 0 0, .cell 7 0]) 8 (by kernel_rfl) (by kernel_rfl) (by kernel_rfl)) (by kernel_rfl)

/-- A slice of bytes that came with the call, read as bytes. -/
theorem came_of_trod {H : Type} {enc : TypeId × Value → H} {W : World} {a : Option Addr} {len cap : Nat} {d : DataW H} {p : List MemPlace} (h : ∃ fuel, DataW.trod enc Ybaf.prog W 0 (fun _ => true) true fuel 31 (Value.slice a len cap).cells.toList = some (d, p)) :
    ∃ D : List UInt8, D.length = len ∧ Came W a D cap := by
  obtain ⟨fuel, hf⟩ := h
  rcases open_ints Ybaf.underlying31 Ybaf.underlying5 (by kernel_rfl) hf with ⟨hcs, _⟩ | ⟨x, l, c, zs, hcs, _, hl, hm, hz, _, hcell, hwz⟩
  · simp [Value.cells] at hcs
    obtain ⟨rfl, rfl, rfl⟩ := hcs
    exact ⟨[], rfl, ⟨⟨fun h => by simp at h⟩, fun _ => ⟨rfl, rfl⟩⟩⟩
  · simp [Value.cells] at hcs
    obtain ⟨rfl, rfl, rfl⟩ := hcs
    simp at hz
    refine ⟨(zs.take len).map fun z => UInt8.ofNat z.toNat, by simp; omega, ⟨⟨fun h0 => ?_⟩, fun h => by cases h⟩⟩
    have hlt : ((zs.take len).map fun z => UInt8.ofNat z.toNat).length = len := by simp; omega
    rw [hlt] at h0
    obtain ⟨b, off, spot⟩ := x
    have hc := hcell 0 (by omega)
    have hspot : spot = none := by simpa [Addr.add] using World.cell?_spot hc
    subst hspot
    have hb := World.block_lt_of_cell? W _ hc
    refine ⟨b, off, rfl, by simpa [Addr.add] using hb, fun i hi => ?_⟩
    rw [hlt] at hi
    rw [← Addr.add_lit, hcell i (by omega)]
    have hbd := bounds_u8 (hwz zs[i] (List.getElem_mem (by omega)))
    have e1 : zs.getD i 0 = zs[i] := by simp [List.getD, List.getElem?_eq_getElem (by omega : i < zs.length)]
    have e2 : ((zs.take len).map fun z => UInt8.ofNat z.toNat).getD i 0 = UInt8.ofNat zs[i].toNat := by
      simp [List.getD, hi, List.getElem?_eq_getElem (by omega : i < zs.length)]
    rw [e1, e2, UInt8.toNat_ofNat']
    congr 2
    omega
end Go.Proofs.YbulkekcFmt
