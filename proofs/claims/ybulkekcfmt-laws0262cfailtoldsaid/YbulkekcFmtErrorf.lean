/-
  fmt.Errorf over two strings: an error that is not nil comes back. Its text is not looked into.
-/
import Derived.Test.YbulkekcFmtMagic
import Derived.Stop.FmtLaws
namespace Go.Proofs.YbulkekcFmt
open Go.RowKit Go.Extern.Stop Go.Stop Go.Extern

theorem fguard (name : String) (w : World) : (FmtStop.guard name).run Ybaf.prog w = .ok () w := by kernel_rfl
theorem call19 (args : Array Value) (w : World) : (callFunc 19 args).run Ybaf.prog w = (FmtCalls.errorf #[9, 59] #[25] args).run Ybaf.prog w :=
  run_callFunc_next Ybaf.func19 (by kernel_rfl) (by kernel_rfl) (by kernel_rfl) args w
theorem nextTurns : Extern.next FmtCalls.turnsRow = some (FmtCalls.begun #[] #[]) := by kernel_rfl
theorem printed2 (w : World) : (FmtDoors.printed ⟨#[37, 115, 58, 32, 110, 111, 116, 32, 97, 32, 106, 111, 117, 114, 110, 97, 108, 58, 32, 105, 116, 32, 100, 111, 101, 115, 32, 110, 111, 116, 32, 98, 101, 103, 105, 110, 32, 119, 105, 116, 104, 32, 116, 104, 101, 32, 108, 105, 110, 101, 32, 37, 113]⟩ 2).run Ybaf.prog w = .ok [(0, 115, false), (1, 113, false)] w := by kernel_rfl
def shape9 : List UInt8 := [12, 6, 0, 0, 0, 0, 0, 0, 0, 115, 116, 114, 105, 110, 103]
theorem act9_115 (name : String) (x : Value) (w : World) : (FmtCalls.act name true 115 false (.iface 9 x)).run Ybaf.prog w = .ok (.closed true) w := by kernel_rfl
theorem act9_113 (name : String) (x : Value) (w : World) : (FmtCalls.act name true 113 false (.iface 9 x)).run Ybaf.prog w = .ok (.closed true) w := by kernel_rfl
theorem op9_115 (name : String) (s : ByteArray) (w : World) : (FmtStop.operand name true 115 false (.iface 9 (.string s))).run Ybaf.prog w = .ok (shape9, FmtStop.pack s.data.toList) w := by kernel_rfl
theorem op9_113 (name : String) (s : ByteArray) (w : World) : (FmtStop.operand name true 113 false (.iface 9 (.string s))).run Ybaf.prog w = .ok (shape9, FmtStop.pack s.data.toList) w := by kernel_rfl

theorem ptr51 (w : World) : (FmtStop.ptrTo "errors.errorString").run Ybaf.prog w = .ok 51 w := by kernel_rfl
theorem elem51 (w : World) : (elemOf 51).run Ybaf.prog w = .ok 53 w := by kernel_rfl

set_option maxRecDepth 4000 in
set_option maxHeartbeats 1000000 in
theorem errorf_two (P : Nat) (s1 s2 : ByteArray) (w : World) (h1 : w.cell? ⟨P, 0, none⟩ = some (.iface 9 (.string s1))) (h2 : w.cell? ⟨P, 1, none⟩ = some (.iface 9 (.string s2))) :
    Calls Ybaf.prog 13 #[.string ⟨#[37, 115, 58, 32, 110, 111, 116, 32, 97, 32, 106, 111, 117, 114, 110, 97, 108, 58, 32, 105, 116, 32, 100, 111, 101, 115, 32, 110, 111, 116, 32, 98, 101, 103, 105, 110, 32, 119, 105, 116, 104, 32, 116, 104, 101, 32, 108, 105, 110, 101, 32, 37, 113]⟩, .slice (some ⟨P, 0, none⟩) 2 2] w fun e w' => ∃ q, e = .returned (.iface 51 (.pointer (some q))) ∧ Below w.heap.size w w' := by
  have k1 := call19
  have k2 := fguard
  have k3 := printed2
  have k4 := act9_115
  have k5 := act9_113
  have k6 := op9_115
  have k7 := op9_113
  have k8 := ptr51
  have k9 := elem51
  have hne := fun w t x => run_neq_iface_nil (P := Ybaf.prog) w 25 iface25 t x
  go_enter Ybaf.func13, Ybaf.ntmps13
  go_wp2
  apply rows_value nextTurns
  case hr =>
    go_simp
    exact ⟨rfl, rfl⟩
  case h =>
    go_wp2
    go_ret
    exact ⟨_, rfl, ((Below.refl w.heap.size w).alloc (Nat.le_refl _) _).drew⟩
end Go.Proofs.YbulkekcFmt
