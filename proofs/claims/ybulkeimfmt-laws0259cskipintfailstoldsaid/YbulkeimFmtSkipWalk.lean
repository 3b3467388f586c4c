/-
  THE WALK of LawS0259CSkipIntFails.
-/
import Derived.Test.YbulkeimFmtSkip
import Derived.LaidEql
namespace Go.Proofs.YbulkeimFmt
open Go.RowKit

theorem info38 : (Ybaf.prog.info? 38).map (fun i => i.comparable) = some true := by kernel_rfl
theorem info40 : (Ybaf.prog.info? 40).map (fun i => i.size) = some 1 := by kernel_rfl

/-- An error of errors.New's make is itself. -/
theorem eql_self (q : Addr) (w : World) : (binOp .eql 26 (.iface 38 (.pointer (some q))) (.iface 38 (.pointer (some q)))).run Ybaf.prog w = .ok (.bool true) w := by
  obtain ⟨i, hi, h2⟩ := Option.map_eq_some_iff.1 info38
  obtain ⟨j, hj, h3⟩ := Option.map_eq_some_iff.1 info40
  exact run_eql_iface_ptr_same (P := Ybaf.prog) w q Ybaf.underlying26 Ybaf.underlying38 hi h2 hj

theorem neg_bound {m : Int} (hm : (Lit.int .i64 m).wf = true) : -9223372036854775808 ≤ m ∧ m ≤ 9223372036854775807 := by
  simp [Lit.wf, IntKind.min, IntKind.max, IntKind.signed, IntKind.bits] at hm
  omega

/-- Behind errors.New, the clone and the new decoder: the comparison, and that the error is still there. -/
theorem after_keep {w w1 : World} {a ao : Option Addr} {n : Nat} {z : Nat → Int} {o : Obj} (HR : ∀ o, Row (w.alloc o) a n z) (hr1 : Row w1 ao n z) (hb1 : Below (w.alloc o).heap.size (w.alloc o) w1) (C : Array Value) (cp c : Nat) (hn : n ≤ 1000000) :
    Calls Ybaf.prog 8 #[.slice ao n cp, .slice a n c] (w1.alloc (.cells C 28)) fun e w3 => e = .returned (.bool true) ∧ w3.cell? ⟨w1.heap.size, 1, none⟩ = C[1]? ∧ Below w.heap.size w w3 := by
  have hs1 : w.heap.size + 1 ≤ w1.heap.size := by have := hb1.size; simpa using this
  refine (same_any ao a n cp c z _ hn (row_below hr1 ((Below.refl w1.heap.size w1).alloc (Nat.le_refl _) _) (Nat.le_refl _)) (row_below (row_below (HR o) hb1 (Nat.le_refl _)) ((Below.refl w1.heap.size w1).alloc (Nat.le_refl _) _) (Nat.le_refl _))).mono ?_
  rintro e w3 ⟨rfl, hb3, _⟩
  refine ⟨rfl, ?_, ?_⟩
  · rw [hb3.cell (p := ⟨w1.heap.size, 1, none⟩) (by simp)]
    exact World.cell?_alloc_at C 28 w1.heap.size 1 rfl
  · have b1 : Below w.heap.size w w1 := ((Below.refl w.heap.size w).alloc (Nat.le_refl _) o).trans (hb1.mono (by simp))
    exact (b1.alloc (by omega) _).trans (hb3.mono (by simp; omega))

/-- Behind the clone, the new decoder and skipInt. -/
theorem after_set {w w1 : World} {a ao : Option Addr} {n : Nat} {z : Nat → Int} (h : Row w a n z) (hr1 : Row w1 ao n z) (hb1 : Below w.heap.size w w1) (cp c : Nat) (w2 : World) (hn : n ≤ 1000000) {o : Obj} (hb2 : Below w1.heap.size (w1.alloc o) w2) (v : Value) (hv : w2.cell? ⟨w1.heap.size, 1, none⟩ = some v) :
    Calls Ybaf.prog 8 #[.slice ao n cp, .slice a n c] w2 fun e w3 => e = .returned (.bool true) ∧ w3.cell? ⟨w1.heap.size, 1, none⟩ = some v ∧ Below w.heap.size w w3 := by
  have hs1 := hb1.size
  have b2 : Below w1.heap.size w1 w2 := ((Below.refl w1.heap.size w1).alloc (Nat.le_refl _) o).trans hb2
  have hlt : w1.heap.size < w2.heap.size := World.block_lt_of_cell? w2 _ hv
  refine (same_any ao a n cp c z _ hn (row_below hr1 b2 (Nat.le_refl _)) (row_below (row_below h hb1 (Nat.le_refl _)) b2 (Nat.le_refl _))).mono ?_
  rintro e w3 ⟨rfl, hb3, _⟩
  exact ⟨rfl, by rw [hb3.cell (p := ⟨w1.heap.size, 1, none⟩) hlt]; exact hv, (hb1.trans (b2.mono hs1)).trans (hb3.mono (by omega))⟩

set_option maxHeartbeats 1000000 in
theorem skip_law (a : Option Addr) (n c : Nat) (z : Nat → Int) (m : Int) (hm : (Lit.int .i64 m).wf = true) (preset : Bool) (msg : ByteArray) (w : World) (hnil : a = none → n = 0) (h : Row w a n z) :
    Calls Ybaf.prog 5 #[.slice a n c, .int .i64 m, .bool preset, .string msg] w fun e w' => e = .returned (.bool true) ∧ Below w.heap.size w w' := by
  by_cases hbig : 1024 < n
  · go_enter Ybaf.func5, Ybaf.ntmps5
    go_wp2
    go_ret
    exact ⟨rfl, Below.refl _ _⟩
  by_cases hbig2 : 1024 < msg.size
  · go_enter Ybaf.func5, Ybaf.ntmps5
    go_wp2
    go_ret
    exact ⟨rfl, Below.refl _ _⟩
  have hn : n ≤ 1024 := by omega
  have hms : msg.size ≤ 1024 := by omega
  clear hbig hbig2
  have heq := eql_self
  have hne := fun w t x => run_neq_iface_nil (P := Ybaf.prog) w 26 iface26 t x
  by_cases hpos : 0 < m
  · cases preset
    · have hwf := neg_bound hm
      have hcl := clone_any a n c z w (by omega) hnil h
      clear hnil
      go_enter Ybaf.func5, Ybaf.ntmps5
      go_wp2_with (first | (go_at_call 6; refine hcl.mono ?_; rintro e w1 ⟨ao, cp, rfl, hr1, hb1⟩; have hs1 := after_set h hr1 hb1) | (go_at_call 10; refine (skip_set w1.heap.size _ (by omega) _ (by simp) (by simp)).mono ?_; rintro e w2 ⟨rfl, hb2, hc0, q, hc1⟩; have hs2 := hs1 cp c w2 (by omega) hb2; simp at hc0) | (go_at_call 8; refine (hs2 _ hc1).mono ?_; rintro e w3 ⟨rfl, hc3, hb3⟩))
      go_ret
      exact ⟨rfl, hb3⟩
    · have hwf := neg_bound hm
      have hr0 := fun o => row_below h ((Below.refl w.heap.size w).alloc (Nat.le_refl _) o) (Nat.le_refl _)
      have hcl := fun o => clone_any a n c z (w.alloc o) (by omega) hnil (hr0 o)
      have HR : Hid (∀ o, Row (w.alloc o) a n z) := hr0
      clear hr0 hnil
      go_enter Ybaf.func5, Ybaf.ntmps5
      go_wp2_with (first | (go_at_call 9; go_in) | (go_at_call 6; refine (hcl _).mono ?_; rintro e w1 ⟨ao, cp, rfl, hr1, hb1⟩; have hs1 := after_keep HR.out hr1 hb1) | (go_at_call 10; refine (skip_keep w1.heap.size _ 38 (.pointer (some ⟨w.heap.size, 0, none⟩)) _ (by simp)).mono ?_; rintro e w2 ⟨rfl, rfl⟩) | (go_at_call 8; refine (hs1 _ cp c (by omega)).mono ?_; rintro e w3 ⟨rfl, hc3, hb3⟩))
      go_ret
      exact ⟨rfl, hb3⟩
  · cases preset
    · have hcl := clone_any a n c z w (by omega) hnil h
      clear hnil
      go_enter Ybaf.func5, Ybaf.ntmps5
      go_wp2_with (first | (go_at_call 6; refine hcl.mono ?_; rintro e w1 ⟨ao, cp, rfl, hr1, hb1⟩; have hs1 := after_set h hr1 hb1) | (go_at_call 10; refine (skip_set w1.heap.size _ (by omega) _ (by simp) (by simp)).mono ?_; rintro e w2 ⟨rfl, hb2, hc0, q, hc1⟩; have hs2 := hs1 cp c w2 (by omega) hb2; simp at hc0) | (go_at_call 8; refine (hs2 _ hc1).mono ?_; rintro e w3 ⟨rfl, hc3, hb3⟩))
      go_ret
      exact ⟨rfl, hb3⟩
    · have hr0 := fun o => row_below h ((Below.refl w.heap.size w).alloc (Nat.le_refl _) o) (Nat.le_refl _)
      have hcl := fun o => clone_any a n c z (w.alloc o) (by omega) hnil (hr0 o)
      have HR : Hid (∀ o, Row (w.alloc o) a n z) := hr0
      clear hr0 hnil
      go_enter Ybaf.func5, Ybaf.ntmps5
      go_wp2_with (first | (go_at_call 9; go_in) | (go_at_call 6; refine (hcl _).mono ?_; rintro e w1 ⟨ao, cp, rfl, hr1, hb1⟩; have hs1 := after_keep HR.out hr1 hb1) | (go_at_call 10; refine (skip_keep w1.heap.size _ 38 (.pointer (some ⟨w.heap.size, 0, none⟩)) _ (by simp)).mono ?_; rintro e w2 ⟨rfl, rfl⟩) | (go_at_call 8; refine (hs1 _ cp c (by omega)).mono ?_; rintro e w3 ⟨rfl, hc3, hb3⟩))
      go_ret
      exact ⟨rfl, hb3⟩
end Go.Proofs.YbulkeimFmt
