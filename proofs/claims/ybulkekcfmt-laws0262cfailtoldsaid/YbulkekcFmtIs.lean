/-
  errors.Is AT A *fmt.wrapError THAT WRAPS THE TARGET ITSELF (after the worked piece Sentry). Go's own text of errors.Is and errors.is is walked.
-/
import Derived.Test.YbulkekcFmtMagic
import Derived.WalkKit
import Derived.LaidEql
import Derived.Stop.Asserts
import Derived.RowKitTokens
namespace Go.Proofs.YbulkekcFmt
open Go.RowKit Go.Extern.Stop Go.Stop Go.Extern

theorem isTypeOf (v : Value) (w : World) : (Extern.ReflectliteType.typeOf #[.iface 51 v]).run Ybaf.prog w = .ok (.iface 67 (.agg #[.pointer (some ⟨2, 51, none⟩)])) w := by kernel_rfl
theorem isComparable (w : World) : (callFunc 56 #[.agg #[.pointer (some ⟨2, 51, none⟩)]]).run Ybaf.prog w = .ok (.value (.bool true)) w := by kernel_rfl
theorem isMethodComparable (v : Value) (w : World) : (Go.method 226 67 v "Comparable").run Ybaf.prog w = .ok (56, v) w := by kernel_rfl
theorem isComp : (Ybaf.prog.info? 51).map (·.comparable) = some true := by kernel_rfl
theorem isSize : (Ybaf.prog.info? 53).map (·.size) = some 1 := by kernel_rfl
theorem noIsE (v : Value) (xT : TypeId) (w : World) : (Instr.typeAssert (.iface 51 v) xT 69 true).run Ybaf.prog w = .ok (.tuple #[.nilIface, .bool false]) w := run_typeAssert_lacksB Ybaf.underlying69 (by kernel_rfl) (by kernel_rfl) v xT w
theorem noUnwrapE (v : Value) (xT : TypeId) (w : World) : (Instr.typeAssert (.iface 51 v) xT 72 true).run Ybaf.prog w = .ok (.tuple #[.nilIface, .bool false]) w := run_typeAssert_lacksB Ybaf.underlying72 (by kernel_rfl) (by kernel_rfl) v xT w
theorem noUnwrapsE (v : Value) (xT : TypeId) (w : World) : (Instr.typeAssert (.iface 51 v) xT 74 true).run Ybaf.prog w = .ok (.tuple #[.nilIface, .bool false]) w := run_typeAssert_lacksB Ybaf.underlying74 (by kernel_rfl) (by kernel_rfl) v xT w
theorem noAsE (v : Value) (xT : TypeId) (w : World) : (Instr.typeAssert (.iface 51 v) xT 89 true).run Ybaf.prog w = .ok (.tuple #[.nilIface, .bool false]) w := run_typeAssert_lacksB Ybaf.underlying89 (by kernel_rfl) (by kernel_rfl) v xT w
theorem noIsW (v : Value) (xT : TypeId) (w : World) : (Instr.typeAssert (.iface 60 v) xT 69 true).run Ybaf.prog w = .ok (.tuple #[.nilIface, .bool false]) w := run_typeAssert_lacksB Ybaf.underlying69 (by kernel_rfl) (by kernel_rfl) v xT w
theorem hasUnwrapW (v : Value) (xT : TypeId) (w : World) : (Instr.typeAssert (.iface 60 v) xT 72 true).run Ybaf.prog w = .ok (.tuple #[.iface 60 v, .bool true]) w := run_typeAssert_hasB Ybaf.underlying72 (by kernel_rfl) v xT w
theorem methodUnwrap (v : Value) (w : World) : (Go.method 226 60 v "Unwrap").run Ybaf.prog w = .ok (51, v) w := by kernel_rfl

/-- errors.Is(e, x), e a *fmt.wrapError that wraps x itself: one Unwrap, then equal. -/
theorem is_wrap_same (pb po : Nat) (b : Addr) (w : World) (h1 : w.cell? ⟨pb, po + 1, none⟩ = some (.iface 51 (.pointer (some b)))) :
    Calls Ybaf.prog 12 #[.iface 60 (.pointer (some ⟨pb, po, none⟩)), .iface 51 (.pointer (some b))] w fun e w' => e = .returned (.bool true) ∧ w' = w := by
  obtain ⟨i, hi, hcmp⟩ := Option.map_eq_some_iff.1 isComp
  obtain ⟨j, hj, hjs⟩ := Option.map_eq_some_iff.1 isSize
  have h8 := @run_callFunc_extern Ybaf.prog 17 _ Extern.ReflectliteType.typeOf Ybaf.func17 (by kernel_rfl) (by kernel_rfl) (by kernel_rfl) (by kernel_rfl)
  have tT := isTypeOf
  have cT := isComparable
  have mR := isMethodComparable
  have nE := noIsE
  have uE := noUnwrapE
  have vE := noUnwrapsE
  have nW := noIsW
  have uW := hasUnwrapW
  have mU := methodUnwrap
  have heq := run_eql_iface_ptr_same (P := Ybaf.prog) w b Ybaf.underlying25 Ybaf.underlying51 hi hcmp hj
  have hty := run_eql_iface_types (P := Ybaf.prog) 60 51 (.pointer (some ⟨pb, po, none⟩)) (.pointer (some b)) Ybaf.underlying25 (by decide) w
  go_enter Ybaf.func12, Ybaf.ntmps12
  go_wp2
  refine wp_loop_rounds 2 ?_
  rw [rounds_succ]
  go_wp2
  rw [rounds_succ]
  go_wp2
  go_ret
  exact ⟨rfl, rfl⟩
end Go.Proofs.YbulkekcFmt
