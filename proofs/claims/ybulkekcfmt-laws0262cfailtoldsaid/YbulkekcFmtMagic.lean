/-
  THE WALK of readMagic.
-/
import Derived.Test.YbulkekcFmtReadOk
import Derived.LaidEql
import Derived.Stop.CallBack
namespace Go.Proofs.YbulkekcFmt
open Go.RowKit Go.Extern.Stop Go.Stop Go.Extern

/-- The eighteen bytes that readMagic makes. -/
def zeros18 : Array Value := (List.replicate 18 (Value.int .u8 0)).toArray
theorem zeros18_size : zeros18.size = 18 := by simp [zeros18]
theorem make18 (w : World) : (Instr.makeSlice 31 (.int .i64 18) (.int .i64 18)).run Ybaf.prog w = .ok (.slice (some ⟨w.heap.size, 0, none⟩) 18 18) (w.alloc (.cells zeros18 5)) := by kernel_rfl

theorem method_read (a : Addr) (w : World) : (method 226 32 (.pointer (some a)) "ReadAt").run Ybaf.prog w = .ok (48, .pointer (some a)) w := by kernel_rfl

theorem info51 : (Ybaf.prog.info? 51).map (fun i => i.comparable) = some true := by kernel_rfl
theorem under51 : Ybaf.prog.underlying 51 = some (.pointer 53) := by kernel_rfl

/-- What readMagic leaves of the reader, and of memory. -/
structure Magic (w w' : World) (R : Nat) (v f : Value) : Prop where
  rd : ∃ g3 c3 g4 c4, Rd w' R v f (.int .i64 1) (.slice (some ⟨g3, 0, none⟩) 1 c3) (.slice (some ⟨g4, 0, none⟩) 1 c4) ∧ w'.cell? ⟨g3, 0, none⟩ = some (.int .i64 0) ∧ w'.cell? ⟨g4, 0, none⟩ = some (.int .i64 18)
  keep : Keep R w w'

theorem magic_of_after {w w2 : World} {R : Nat} {v f : Value} {T : List UInt8} {o : Obj} (h : After (w.alloc o) w2 R w.heap.size v f T) : Magic w w2 R v f :=
  ⟨h.rd, h.os, h.tape, h.output, by have := h.size; simp at this; omega, fun k hk hne => by
    rw [h.block k (by simp; omega) hne (by omega)]
    exact Below.heap_alloc w o k hk⟩

theorem conv_after {w w2 : World} {R B : Nat} {v f : Value} {T : List UInt8} (h : After w w2 R B v f T) : (convert 31 9 (.slice (some ⟨B, 0, none⟩) T.length 18)).run Ybaf.prog w2 = .ok (.string ⟨T.toArray⟩) w2 := by
  obtain ⟨cur, hg, hs, ht⟩ := h.row
  refine run_convert_bytes_back (P := Ybaf.prog) w2 31 9 5 ⟨B, 0, none⟩ 18 T Ybaf.underlying31 Ybaf.underlying5 Ybaf.underlying9 ?_
  intro j hj
  rw [Addr.add_lit, Nat.zero_add, cell_of_row w2 B j cur 5 (0, 0) hg]
  have h1 : (cur.toList.take T.length)[j]? = some (bv T[j]) := by rw [ht]; simp [List.getElem?_eq_getElem hj]
  rw [List.getElem?_take, if_pos hj] at h1
  simpa [bv] using h1
end Go.Proofs.YbulkekcFmt
