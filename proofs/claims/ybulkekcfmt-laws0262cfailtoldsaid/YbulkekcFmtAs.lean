/-
  errors.As AT AN error OF errors.New's MAKE AND A TARGET OF TYPE **fs.PathError: false (after the worked piece Toyas). Go's own text of errors.As and errors.as is walked.
-/
import Derived.Test.YbulkekcFmtIs
namespace Go.Proofs.YbulkekcFmt
open Go.RowKit Go.Extern.Stop Go.Stop Go.Extern

theorem as_valueOf (t : Addr) (w : World) : (callFunc 23 #[.iface 63 (.pointer (some t))]).run Ybaf.prog w
    = .ok (.value (.agg #[.pointer (some ⟨2, 63, none⟩), .pointer (some ⟨w.heap.size, 0, none⟩), .int .u64 150])) (w.alloc (.cells #[.pointer (some t)] 63)) := by kernel_rfl
theorem as_type (a : Addr) (w : World) : (callFunc 24 #[.agg #[.pointer (some ⟨2, 63, none⟩), .pointer (some a), .int .u64 150]]).run Ybaf.prog w
    = .ok (.value (.iface 67 (.agg #[.pointer (some ⟨2, 63, none⟩)]))) w := by kernel_rfl
theorem as_methodKind (h : Value) (w : World) : (Go.method 226 67 (.agg #[h]) "Kind").run Ybaf.prog w = .ok (44, h) w := by kernel_rfl
theorem as_methodElem (h : Value) (w : World) : (Go.method 226 67 (.agg #[h]) "Elem").run Ybaf.prog w = .ok (57, .agg #[h]) w := by kernel_rfl
theorem as_methodImplements (h : Value) (w : World) : (Go.method 226 67 (.agg #[h]) "Implements").run Ybaf.prog w = .ok (58, .agg #[h]) w := by kernel_rfl
theorem as_methodAssignable (h : Value) (w : World) : (Go.method 226 67 (.agg #[h]) "AssignableTo").run Ybaf.prog w = .ok (55, .agg #[h]) w := by kernel_rfl
theorem as_kind63 (w : World) : (callFunc 44 #[.pointer (some ⟨2, 63, none⟩)]).run Ybaf.prog w = .ok (.value (.int .u8 22)) w := by kernel_rfl
theorem as_kind61 (w : World) : (callFunc 44 #[.pointer (some ⟨2, 61, none⟩)]).run Ybaf.prog w = .ok (.value (.int .u8 22)) w := by kernel_rfl
theorem as_elem (w : World) : (callFunc 57 #[.agg #[.pointer (some ⟨2, 63, none⟩)]]).run Ybaf.prog w = .ok (.value (.iface 67 (.agg #[.pointer (some ⟨2, 61, none⟩)]))) w := by kernel_rfl
theorem as_implements (w : World) : (callFunc 58 #[.agg #[.pointer (some ⟨2, 61, none⟩)], .iface 67 (.agg #[.pointer (some ⟨2, 25, none⟩)])]).run Ybaf.prog w = .ok (.value (.bool true)) w := by kernel_rfl
theorem as_typeOf (v : Value) (w : World) : (callFunc 17 #[.iface 51 v]).run Ybaf.prog w = .ok (.value (.iface 67 (.agg #[.pointer (some ⟨2, 51, none⟩)]))) w := by kernel_rfl
theorem as_assignable (w : World) : (callFunc 55 #[.agg #[.pointer (some ⟨2, 51, none⟩)], .iface 67 (.agg #[.pointer (some ⟨2, 61, none⟩)])]).run Ybaf.prog w = .ok (.value (.bool false)) w := by kernel_rfl

theorem rlm (z : Sem Value) (f : TypeId → Addr → Nat → Nat → Sem Value) (v : Value) :
    ReflectliteValue.method z f #[v] = (do match ← ReflectliteValue.parts v with | none => z | some (t, a, fl) => f t a fl (fl % 32)) := rfl
theorem as_parts (a : Addr) (w : World) : (ReflectliteValue.parts (.agg #[.pointer (some ⟨2, 63, none⟩), .pointer (some a), .int .u64 150])).run Ybaf.prog w = .ok (some (63, a, 150)) w := by kernel_rfl
theorem as_isNil (a p : Addr) (W : World) (ha : W.cell? a = some (.pointer (some p))) :
    (callFunc 25 #[.agg #[.pointer (some ⟨2, 63, none⟩), .pointer (some a), .int .u64 150]]).run Ybaf.prog W = .ok (.value (.bool false)) W := by
  rw [@run_callFunc_extern Ybaf.prog 25 _ (ReflectliteValue.method (ReflectliteValue.valueError "reflectlite.Value.IsNil" 0) ReflectliteValue.isNil) Ybaf.func25 (by kernel_rfl) (by kernel_rfl) (by kernel_rfl) (by kernel_rfl), rlm]
  simp only [Sem.run_bind, as_parts, Result.andThen]
  simp [ReflectliteValue.isNil, loadVar, isAgg, underlying, Ybaf.underlying63, ha, Result.andThen]

set_option maxHeartbeats 4000000 in
theorem as_miss (e t : Addr) (w : World) (hg : w.cell? ⟨1, 0, none⟩ = some (.iface 67 (.agg #[.pointer (some ⟨2, 25, none⟩)]))) :
    Calls Ybaf.prog 20 #[.iface 51 (.pointer (some e)), .iface 63 (.pointer (some t))] w fun ev w' => ev = .returned (.bool false) ∧ Below w.heap.size w w' := by
  have f1 := as_valueOf
  have f2 := as_type
  have f3 := as_methodKind
  have f4 := as_methodElem
  have f5 := as_methodImplements
  have f6 := as_methodAssignable
  have f7 := as_kind63
  have f8 := as_kind61
  have f9 := as_elem
  have f10 := as_implements
  have f11 := as_typeOf
  have f12 := as_assignable
  have g1 := noAsE
  have g2 := noUnwrapE
  have g3 := noUnwrapsE
  have hlt : 1 < w.heap.size := World.block_lt_of_cell? _ _ hg
  have n8 := as_isNil ⟨w.heap.size, 0, none⟩ t ((w.alloc (.cells #[.pointer (some t)] 63)).alloc (.cells #[.pointer (some ⟨2, 63, none⟩), .pointer (some ⟨w.heap.size, 0, none⟩), .int .u64 150] 80)) (by simp)
  have hg2 : ((w.alloc (.cells #[.pointer (some t)] 63)).alloc (.cells #[.pointer (some ⟨2, 63, none⟩), .pointer (some ⟨w.heap.size, 0, none⟩), .int .u64 150] 80)).cell? ⟨1, 0, none⟩ = some (.iface 67 (.agg #[.pointer (some ⟨2, 25, none⟩)])) := by
    rw [World.cell?_alloc_lt _ _ ⟨1, 0, none⟩ (by simp; omega), World.cell?_alloc_lt _ _ ⟨1, 0, none⟩ hlt]; exact hg
  go_enter Ybaf.func20, Ybaf.ntmps20
  go_wp2
  refine wp_loop_rounds 1 ?_
  rw [rounds_succ]
  go_wp2
  go_ret
  exact ⟨rfl, (((Below.refl w.heap.size w).alloc (Nat.le_refl _) _).alloc (by simp) _).alloc (by simp; omega) _⟩
end Go.Proofs.YbulkekcFmt
