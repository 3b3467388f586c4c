/-
  fmt.Errorf OVER A STRING AND AN err OF errors.New's MAKE, THE LATTER BY THE WRAPPING VERB: a *fmt.wrapError that holds err. Its text is not looked into. Then csvfile.FileError.
-/
import Derived.Test.YbulkekcFmtErrorf
import Derived.Test.YbulkekcFmtAs
import Derived.Test.YbulkekcFmtLaid
namespace Go.Proofs.YbulkekcFmt
open Go.RowKit Go.Extern.Stop Go.Stop Go.Extern

theorem printedW (w : World) : (FmtDoors.printed ⟨#[37, 115, 58, 32, 37, 119]⟩ 2).run Ybaf.prog w = .ok [(0, 115, false), (1, 119, false)] w := by kernel_rfl
theorem act51_119 (name : String) (x : Value) (w : World) : (FmtCalls.act name true 119 false (.iface 51 x)).run Ybaf.prog w = .ok (.closed true) w := by kernel_rfl
def plain51 : List UInt8 := 14 :: FmtStop.pack eofName.toUTF8.data.toList
theorem op51_119 (name : String) (a : Addr) (s : ByteArray) (w : World) (hc : w.cell? a = some (.string s)) :
    (FmtStop.operand name true 119 false (.iface 51 (.pointer (some a)))).run Ybaf.prog w = .ok (plain51, s.data.toList) w := by
  have h1 : (typeStr 51).run Ybaf.prog w = .ok eofName w := by kernel_rfl
  have d2 : Ybaf.t51.desc = .pointer 53 := rfl
  have d3 : Ybaf.t53.desc = .named "errors.errorString" 52 := rfl
  simp [FmtStop.operand, h1, d2, d3, run_load, hc, plain51]
theorem ptr60 (w : World) : (FmtStop.ptrTo "fmt.wrapError").run Ybaf.prog w = .ok 60 w := by kernel_rfl
theorem elem60 (w : World) : (elemOf 60).run Ybaf.prog w = .ok 112 w := by kernel_rfl
theorem isError51 (w : World) : (FmtDoors.textMethod 51 "Error").run Ybaf.prog w = .ok true w := by kernel_rfl

set_option maxRecDepth 4000 in
set_option maxHeartbeats 1000000 in
theorem errorf_wrap (P : Nat) (s : ByteArray) (a : Addr) (t : ByteArray) (w : World) (h1 : w.cell? ⟨P, 0, none⟩ = some (.iface 9 (.string s))) (h2 : w.cell? ⟨P, 1, none⟩ = some (.iface 51 (.pointer (some a)))) (hc : w.cell? a = some (.string t)) :
    Calls Ybaf.prog 13 #[.string ⟨#[37, 115, 58, 32, 37, 119]⟩, .slice (some ⟨P, 0, none⟩) 2 2] w fun e w' => ∃ N, e = .returned (.iface 60 (.pointer (some ⟨N, 0, none⟩))) ∧ w'.cell? ⟨N, 1, none⟩ = some (.iface 51 (.pointer (some a))) ∧ Below w.heap.size w w' := by
  have k1 := call19
  have k2 := fguard
  have k3 := printedW
  have k4 := act9_115
  have k5 := act51_119
  have k6 := op9_115
  have k7 := fun name => op51_119 name a t w hc
  have k8 := ptr60
  have k9 := elem60
  have k10 := isError51
  have hne := fun w t x => run_neq_iface_nil (P := Ybaf.prog) w 25 iface25 t x
  go_enter Ybaf.func13, Ybaf.ntmps13
  go_wp2
  apply rows_value nextTurns
  case hr =>
    go_simp
    exact ⟨rfl, rfl⟩
  case h =>
    go_wp2
    go_ret
    refine ⟨_, rfl, ?_, ((Below.refl w.heap.size w).alloc (Nat.le_refl _) _).drew⟩
    simp

theorem wrap_below {w w1 w2 : World} {o o' : Obj} (b1 : Below (w.alloc o).heap.size (w.alloc o) w1) (b2 : Below (w1.alloc o').heap.size (w1.alloc o') w2) : Below w.heap.size w w2 := by
  have c0 := (Below.refl w.heap.size w).alloc (Nat.le_refl _) o
  have s1 := b1.size
  have s2 := b2.size
  simp at s1 s2
  have c1 : Below w.heap.size w w1 := c0.trans (b1.mono (by simp))
  have c2 := c1.alloc (by omega) o'
  exact c2.trans (b2.mono (by simp; omega))

set_option maxRecDepth 4000 in
set_option maxHeartbeats 1000000 in
theorem fileError (a : Addr) (t s : ByteArray) (w : World) (hg : w.cell? ⟨1, 0, none⟩ = some (.iface 67 (.agg #[.pointer (some ⟨2, 25, none⟩)]))) (hc : w.cell? a = some (.string t)) :
    Calls Ybaf.prog 14 #[.iface 51 (.pointer (some a)), .string s] w fun e w' => ∃ N, e = .returned (.iface 60 (.pointer (some ⟨N, 0, none⟩))) ∧ w'.cell? ⟨N, 1, none⟩ = some (.iface 51 (.pointer (some a))) ∧ Below w.heap.size w w' := by
  have hlt : 1 < w.heap.size := World.block_lt_of_cell? _ _ hg
  have hla : a.block < w.heap.size := World.block_lt_of_cell? _ _ hc
  have hgA : (w.alloc (.cells #[.pointer none] 61)).cell? ⟨1, 0, none⟩ = some (.iface 67 (.agg #[.pointer (some ⟨2, 25, none⟩)])) := by
    rw [World.cell?_alloc_lt _ _ ⟨1, 0, none⟩ hlt]; exact hg
  have hcA : (w.alloc (.cells #[.pointer none] 61)).cell? a = some (.string t) := by
    rw [World.cell?_alloc_lt _ _ a hla]; exact hc
  go_enter Ybaf.func14, Ybaf.ntmps14
  go_wp2_with (first | (go_at_call 20; refine (as_miss a ⟨w.heap.size, 0, none⟩ _ ?_).mono ?_; exact hgA; rintro e w1 ⟨rfl, b1⟩) | (go_at_call 13; refine (errorf_wrap w1.heap.size s a t _ ?_ ?_ ?_).mono ?_; simp; simp; exact (by rw [World.cell?_alloc_lt _ _ a (by have := b1.size; simp at this; omega), b1.cell (by simp; omega)]; exact hcA); rintro e w2 ⟨N, rfl, hN, b2⟩))
  go_ret
  exact ⟨N, rfl, hN, wrap_below b1 b2⟩
end Go.Proofs.YbulkekcFmt
