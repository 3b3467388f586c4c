/-
  THE WALKS of fmt.Errorf over a format without operands, fail and skipInt.
-/
import Derived.Test.YbulkeimFmtBytes
import Derived.Stop.IfaceNil
import Derived.Laws.Externs
import Derived.Stop.FmtLaws
namespace Go.Proofs.YbulkeimFmt
open Go.RowKit Go.Extern.Stop Go.Stop Go.Extern

theorem fguard (name : String) (w : World) : (FmtStop.guard name).run Ybaf.prog w = .ok () w := by kernel_rfl
theorem iface26 : Ybaf.prog.isIface 26 = true := by kernel_rfl

theorem call12 (args : Array Value) (w : World) : (callFunc 12 args).run Ybaf.prog w = ((FmtStop.errorf #[9, 36] #[26] args).run Ybaf.prog w).andThen fun v w' => .ok (.value v) w' :=
  run_callFunc_extern Ybaf.func12 (by kernel_rfl) (by kernel_rfl) (by kernel_rfl) (by kernel_rfl) args w

theorem errorf_none (f : ByteArray) (hf : f.data.contains 37 = false) (w : World) : (FmtStop.errorf #[9, 36] #[26] #[.string f, .slice none 0 0]).run Ybaf.prog w = .ok .nilIface w := by
  have hf' : ¬ 37 ∈ f.data := by simpa using hf
  rw [FmtStop.errorf_lit]
  simp [fguard, FmtStop.cells]
  exact fun h => absurd h hf'

theorem call12_none (f : ByteArray) (hf : f.data.contains 37 = false) (w : World) : (callFunc 12 #[.string f, .slice none 0 0]).run Ybaf.prog w = .ok (.value .nilIface) w := by
  rw [call12, errorf_none f hf]
  rfl

set_option maxHeartbeats 400000 in
theorem errorf_any (f : ByteArray) (hf : f.data.contains 37 = false) (w : World) :
    Calls Ybaf.prog 11 #[.string f, .slice none 0 0] w fun e w' => e = .returned (.iface 38 (.pointer (some ⟨w.heap.size, 0, none⟩))) ∧ w' = w.alloc (.cells #[.string f] 40) := by
  have h12 := call12_none f hf
  have hn := fun w => run_neq_nil_nil_at (P := Ybaf.prog) w 26 iface26
  clear hf
  go_enter Ybaf.func11, Ybaf.ntmps11
  go_wp2
  go_ret
  exact ⟨rfl, rfl⟩

/-- fail on a decoder that holds an error: nothing turns. -/
theorem fail_keep (D : Nat) (f : ByteArray) (a : Value) (t : TypeId) (x : Value) (w : World) (hc : w.cell? ⟨D, 1, none⟩ = some (.iface t x)) :
    Calls Ybaf.prog 7 #[.pointer (some ⟨D, 0, none⟩), .string f, a] w fun e w' => e = .returned (.tuple #[]) ∧ w = w' := by
  have he := fun w t x => run_eql_iface_nil (P := Ybaf.prog) w 26 iface26 t x
  go_enter Ybaf.func7, Ybaf.ntmps7
  go_wp2
  go_end0
  exact ⟨rfl, rfl⟩

/-- fail on a decoder that holds none. -/
theorem fail_set (D : Nat) (f : ByteArray) (hf : f.data.contains 37 = false) (w : World) (hc : w.cell? ⟨D, 1, none⟩ = some .nilIface) (hz : w.frozen? ⟨D, 1, none⟩ = false) :
    Calls Ybaf.prog 7 #[.pointer (some ⟨D, 0, none⟩), .string f, .slice none 0 0] w fun e w' => e = .returned (.tuple #[]) ∧ (w.setCell ⟨D, 1, none⟩ (.iface 38 (.pointer (some ⟨w.heap.size, 0, none⟩)))).alloc (.cells #[.string f] 40) = w' := by
  have he := fun w => run_eql_nil_nil_at (P := Ybaf.prog) w 26 iface26
  have hlt : D < w.heap.size := World.block_lt_of_cell? w _ hc
  have hcall := errorf_any f hf
  clear hf
  go_enter Ybaf.func7, Ybaf.ntmps7
  go_wp2_with (first | (go_at_call 11; refine (hcall _).mono ?_; rintro e w' ⟨rfl, rfl⟩))
  go_end0
  exact ⟨rfl, rfl⟩

/-- skipInt on a decoder that holds an error. -/
theorem skip_keep (D : Nat) (n : Int) (t : TypeId) (x : Value) (w : World) (hc : w.cell? ⟨D, 1, none⟩ = some (.iface t x)) :
    Calls Ybaf.prog 10 #[.pointer (some ⟨D, 0, none⟩), .int .i64 n] w fun e w' => e = .returned (.bool false) ∧ w = w' := by
  have he := fun w t x => run_neq_iface_nil (P := Ybaf.prog) w 26 iface26 t x
  go_enter Ybaf.func10, Ybaf.ntmps10
  go_wp2_with (first | (go_at_call 7; refine (fail_keep D _ _ t x _ hc).mono ?_; rintro e w' ⟨rfl, rfl⟩))
  go_ret
  exact ⟨rfl, rfl⟩

theorem set_zero (w : World) (D : Nat) (v : Value) (o : Obj) (h : D < w.heap.size) : ((w.setCell ⟨D, 1, none⟩ v).alloc o).cell? ⟨D, 0, none⟩ = w.cell? ⟨D, 0, none⟩ := by
  have h2 : D < (w.setCell ⟨D, 1, none⟩ v).heap.size := by simpa using h
  exact (World.cell?_alloc_past o D 0 h2).trans (World.cell?_setCell_other w _ _ v (by simp))
theorem set_one (w : World) (D : Nat) (v u : Value) (o : Obj) (h : D < w.heap.size) (hc : w.cell? ⟨D, 1, none⟩ = some u) : ((w.setCell ⟨D, 1, none⟩ v).alloc o).cell? ⟨D, 1, none⟩ = some v := by
  have h2 : D < (w.setCell ⟨D, 1, none⟩ v).heap.size := by simpa using h
  exact (World.cell?_alloc_past o D 1 h2).trans (World.cell?_setCell_same w _ v hc)

theorem no_percent : (⟨#[116, 104, 101, 32, 114, 101, 99, 111, 114, 100, 32, 101, 110, 100, 115, 32, 101, 97, 114, 108, 121, 44, 32, 111, 114, 32, 104, 111, 108, 100, 115, 32, 97, 32, 98, 97, 100, 32, 105, 110, 116, 101, 103, 101, 114]⟩ : ByteArray).data.contains 37 = false := by kernel_rfl

/-- skipInt at n <= 0 on a decoder that holds none. -/
theorem skip_set (D : Nat) (n : Int) (hn : n ≤ 0) (w : World) (hc : w.cell? ⟨D, 1, none⟩ = some .nilIface) (hz : w.frozen? ⟨D, 1, none⟩ = false) :
    Calls Ybaf.prog 10 #[.pointer (some ⟨D, 0, none⟩), .int .i64 n] w fun e w' => e = .returned (.bool false) ∧ Below D w w' ∧ w'.cell? ⟨D, 0, none⟩ = w.cell? ⟨D, 0, none⟩ ∧ ∃ q, w'.cell? ⟨D, 1, none⟩ = some (.iface 38 (.pointer (some q))) := by
  have he := fun w => run_neq_nil_nil_at (P := Ybaf.prog) w 26 iface26
  have hlt : D < w.heap.size := World.block_lt_of_cell? w _ hc
  go_enter Ybaf.func10, Ybaf.ntmps10
  go_wp2_with (first | (go_at_call 7; refine (fail_set D _ no_percent w hc hz).mono ?_; rintro e w' ⟨rfl, rfl⟩))
  go_ret
  exact ⟨rfl, ((Below.refl D w).setCell (Nat.le_refl _) _).alloc (by simp; omega) _, set_zero w D _ _ hlt, ⟨w.heap.size, 0, none⟩, set_one w D _ _ _ hlt hc⟩
end Go.Proofs.YbulkeimFmt
