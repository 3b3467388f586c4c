/-
  THE WALK of readMagic: what it gives for the bytes that the reader holds.
-/
import Derived.Test.YbulkekcFmtErrorf
namespace Go.Proofs.YbulkekcFmt
open Go.RowKit

def M2 : List UInt8 := [116, 117, 111, 103, 117, 97, 110, 32, 106, 111, 117, 114, 110, 97, 108, 32, 50, 10]
def M1 : List UInt8 := [116, 117, 111, 103, 117, 97, 110, 32, 106, 111, 117, 114, 110, 97, 108, 32, 49, 10]

theorem eql51 (q : Addr) (w : World) : (binOp .neq 25 (.iface 51 (.pointer (some q))) (.iface 51 (.pointer (some q)))).run Ybaf.prog w = .ok (.bool false) w := by
  obtain ⟨i, hi, h2⟩ := Option.map_eq_some_iff.1 info51
  obtain ⟨i3, h3a, _⟩ := Option.map_eq_some_iff.1 (show (Ybaf.prog.info? 53).map (fun i => i.size) = some 1 by kernel_rfl)
  have h := run_equalIn_iface_ptr_same (P := Ybaf.prog) w 9998 q Ybaf.underlying25 under51 hi h2 h3a
  simp only [binOp]
  simp [Op.equal, Op.maxDepth, h]

/-- The error that ReadAt gave: io.EOF's value, or none. -/
def Ev (q : Addr) (ev : Value) : Prop := ev = .iface 51 (.pointer (some q)) ∨ ev = .nilIface

theorem slice_head (B n : Nat) (hn : n ≤ 18) (w : World) : (Instr.slice 31 (.slice (some ⟨B, 0, none⟩) 18 18) none (some (.int .i64 n)) none).run Ybaf.prog w = .ok (.slice (some ⟨B, 0, none⟩) n 18) w := by
  rw [run_slice_h w 31 (some ⟨B, 0, none⟩) 18 18 (by kernel_rfl) .i64 n (by omega) (by omega)]
  have e : (sizeOf (Ybaf.prog.elem 31)).run Ybaf.prog w = .ok 1 w := by kernel_rfl
  rw [e]
  simp [Result.andThen, sliced, Addr.add_lit]

theorem eof_after {w w2 : World} {R : Nat} {v f : Value} {T : List UInt8} {o : Obj} {x : Value} (h : After (w.alloc o) w2 R w.heap.size v f T) (hR0 : 0 < R) (hRw : R < w.heap.size) (hE : w.cell? ⟨0, 0, none⟩ = some x) : w2.cell? ⟨0, 0, none⟩ = some x := by
  rw [World.cell?_of_block (w := w.alloc o) (h.block 0 (by simp) (by omega) (by omega)), World.cell?_of_block (w := w) (Below.heap_alloc w o 0 (by omega))]
  exact hE

set_option maxRecDepth 4000 in
set_option maxHeartbeats 1000000 in
theorem magic_two (R : Nat) (v : Value) (q : Addr) (ev : Value) (hev : Ev q ev) (T : List UInt8) (hT : T.length ≤ 18) (w : World) (hR0 : 0 < R) (hRw : R < w.heap.size) (hE : w.cell? ⟨0, 0, none⟩ = some (.iface 51 (.pointer (some q))))
    (hread : Calls Ybaf.prog 48 #[.pointer (some ⟨R, 0, none⟩), .slice (some ⟨w.heap.size, 0, none⟩) 18 18, .int .i64 0] (w.alloc (.cells zeros18 5)) fun e w2 => e = .returned (.tuple #[.int .i64 T.length, ev]) ∧ After (w.alloc (.cells zeros18 5)) w2 R w.heap.size v .nilIface T)
    (t2 : (T == [116, 117, 111, 103, 117, 97, 110, 32, 106, 111, 117, 114, 110, 97, 108, 32, 50, 10]) = true) :
    Calls Ybaf.prog 9 #[.iface 32 (.pointer (some ⟨R, 0, none⟩)), .string ⟨#[106]⟩] w fun e w' => e = .returned (.tuple #[.int .i64 2, .nilIface]) ∧ Magic w w' R v .nilIface := by
  have hmk := make18
  have hmt := method_read
  have hsl := fun w2 => slice_head w.heap.size T.length hT w2
  have hneq := eql51 q
  have hne1 := fun w t x => run_neq_iface_nil (P := Ybaf.prog) w 25 iface25 t x
  have hne2 := fun w => run_neq_nil_nil_at (P := Ybaf.prog) w 25 iface25
  have hTi : (T.length : Int) ≤ 18 := by omega
  have HT : Hid (T.length ≤ 18) := hT
  clear hT
  rcases hev with rfl | rfl
  all_goals
    go_enter Ybaf.func9, Ybaf.ntmps9
    go_wp2_with (first | (go_at_call 48; refine hread.mono ?_; rintro e w2 ⟨rfl, haf⟩; have hcv := conv_after haf; have hE2 := eof_after haf hR0 hRw hE))
    go_ret2
    exact ⟨rfl, magic_of_after haf⟩
set_option maxRecDepth 4000 in
set_option maxHeartbeats 1000000 in
theorem magic_one (R : Nat) (v : Value) (q : Addr) (ev : Value) (hev : Ev q ev) (T : List UInt8) (hT : T.length ≤ 18) (w : World) (hR0 : 0 < R) (hRw : R < w.heap.size) (hE : w.cell? ⟨0, 0, none⟩ = some (.iface 51 (.pointer (some q))))
    (hread : Calls Ybaf.prog 48 #[.pointer (some ⟨R, 0, none⟩), .slice (some ⟨w.heap.size, 0, none⟩) 18 18, .int .i64 0] (w.alloc (.cells zeros18 5)) fun e w2 => e = .returned (.tuple #[.int .i64 T.length, ev]) ∧ After (w.alloc (.cells zeros18 5)) w2 R w.heap.size v .nilIface T)
    (t2 : (T == [116, 117, 111, 103, 117, 97, 110, 32, 106, 111, 117, 114, 110, 97, 108, 32, 50, 10]) = false) (t1 : (T == [116, 117, 111, 103, 117, 97, 110, 32, 106, 111, 117, 114, 110, 97, 108, 32, 49, 10]) = true) :
    Calls Ybaf.prog 9 #[.iface 32 (.pointer (some ⟨R, 0, none⟩)), .string ⟨#[106]⟩] w fun e w' => e = .returned (.tuple #[.int .i64 1, .nilIface]) ∧ Magic w w' R v .nilIface := by
  have hmk := make18
  have hmt := method_read
  have hsl := fun w2 => slice_head w.heap.size T.length hT w2
  have hneq := eql51 q
  have hne1 := fun w t x => run_neq_iface_nil (P := Ybaf.prog) w 25 iface25 t x
  have hne2 := fun w => run_neq_nil_nil_at (P := Ybaf.prog) w 25 iface25
  have hTi : (T.length : Int) ≤ 18 := by omega
  have HT : Hid (T.length ≤ 18) := hT
  clear hT
  rcases hev with rfl | rfl
  all_goals
    go_enter Ybaf.func9, Ybaf.ntmps9
    go_wp2_with (first | (go_at_call 48; refine hread.mono ?_; rintro e w2 ⟨rfl, haf⟩; have hcv := conv_after haf; have hE2 := eof_after haf hR0 hRw hE))
    go_ret2
    exact ⟨rfl, magic_of_after haf⟩
set_option maxRecDepth 4000 in
set_option maxHeartbeats 1000000 in
theorem magic_pre2 (R : Nat) (v : Value) (q : Addr) (ev : Value) (hev : Ev q ev) (T : List UInt8) (hT : T.length ≤ 18) (w : World) (hR0 : 0 < R) (hRw : R < w.heap.size) (hE : w.cell? ⟨0, 0, none⟩ = some (.iface 51 (.pointer (some q))))
    (hread : Calls Ybaf.prog 48 #[.pointer (some ⟨R, 0, none⟩), .slice (some ⟨w.heap.size, 0, none⟩) 18 18, .int .i64 0] (w.alloc (.cells zeros18 5)) fun e w2 => e = .returned (.tuple #[.int .i64 T.length, ev]) ∧ After (w.alloc (.cells zeros18 5)) w2 R w.heap.size v .nilIface T)
    (t2 : (T == [116, 117, 111, 103, 117, 97, 110, 32, 106, 111, 117, 114, 110, 97, 108, 32, 50, 10]) = false) (t1 : (T == [116, 117, 111, 103, 117, 97, 110, 32, 106, 111, 117, 114, 110, 97, 108, 32, 49, 10]) = false) (p2 : ∀ w, Calls Ybaf.prog 15 #[.string ⟨#[116, 117, 111, 103, 117, 97, 110, 32, 106, 111, 117, 114, 110, 97, 108, 32, 50, 10]⟩, .string ⟨T.toArray⟩] w fun e w' => e = .returned (.bool true) ∧ w = w') :
    Calls Ybaf.prog 9 #[.iface 32 (.pointer (some ⟨R, 0, none⟩)), .string ⟨#[106]⟩] w fun e w' => e = .returned (.tuple #[.int .i64 0, .nilIface]) ∧ Magic w w' R v .nilIface := by
  have hmk := make18
  have hmt := method_read
  have hsl := fun w2 => slice_head w.heap.size T.length hT w2
  have hneq := eql51 q
  have hne1 := fun w t x => run_neq_iface_nil (P := Ybaf.prog) w 25 iface25 t x
  have hne2 := fun w => run_neq_nil_nil_at (P := Ybaf.prog) w 25 iface25
  have hTi : (T.length : Int) ≤ 18 := by omega
  have HT : Hid (T.length ≤ 18) := hT
  clear hT
  rcases hev with rfl | rfl
  all_goals
    go_enter Ybaf.func9, Ybaf.ntmps9
    go_wp2_with (first | (go_at_call 48; refine hread.mono ?_; rintro e w2 ⟨rfl, haf⟩; have hcv := conv_after haf; have hE2 := eof_after haf hR0 hRw hE) | (go_at_call 15; refine (p2 _).mono ?_; rintro e w' ⟨rfl, rfl⟩))
    go_ret2
    exact ⟨rfl, magic_of_after haf⟩
set_option maxRecDepth 4000 in
set_option maxHeartbeats 1000000 in
theorem magic_pre1 (R : Nat) (v : Value) (q : Addr) (ev : Value) (hev : Ev q ev) (T : List UInt8) (hT : T.length ≤ 18) (w : World) (hR0 : 0 < R) (hRw : R < w.heap.size) (hE : w.cell? ⟨0, 0, none⟩ = some (.iface 51 (.pointer (some q))))
    (hread : Calls Ybaf.prog 48 #[.pointer (some ⟨R, 0, none⟩), .slice (some ⟨w.heap.size, 0, none⟩) 18 18, .int .i64 0] (w.alloc (.cells zeros18 5)) fun e w2 => e = .returned (.tuple #[.int .i64 T.length, ev]) ∧ After (w.alloc (.cells zeros18 5)) w2 R w.heap.size v .nilIface T)
    (t2 : (T == [116, 117, 111, 103, 117, 97, 110, 32, 106, 111, 117, 114, 110, 97, 108, 32, 50, 10]) = false) (t1 : (T == [116, 117, 111, 103, 117, 97, 110, 32, 106, 111, 117, 114, 110, 97, 108, 32, 49, 10]) = false) (p2 : ∀ w, Calls Ybaf.prog 15 #[.string ⟨#[116, 117, 111, 103, 117, 97, 110, 32, 106, 111, 117, 114, 110, 97, 108, 32, 50, 10]⟩, .string ⟨T.toArray⟩] w fun e w' => e = .returned (.bool false) ∧ w = w') (p1 : ∀ w, Calls Ybaf.prog 15 #[.string ⟨#[116, 117, 111, 103, 117, 97, 110, 32, 106, 111, 117, 114, 110, 97, 108, 32, 49, 10]⟩, .string ⟨T.toArray⟩] w fun e w' => e = .returned (.bool true) ∧ w = w') :
    Calls Ybaf.prog 9 #[.iface 32 (.pointer (some ⟨R, 0, none⟩)), .string ⟨#[106]⟩] w fun e w' => e = .returned (.tuple #[.int .i64 0, .nilIface]) ∧ Magic w w' R v .nilIface := by
  have hmk := make18
  have hmt := method_read
  have hsl := fun w2 => slice_head w.heap.size T.length hT w2
  have hneq := eql51 q
  have hne1 := fun w t x => run_neq_iface_nil (P := Ybaf.prog) w 25 iface25 t x
  have hne2 := fun w => run_neq_nil_nil_at (P := Ybaf.prog) w 25 iface25
  have hTi : (T.length : Int) ≤ 18 := by omega
  have HT : Hid (T.length ≤ 18) := hT
  clear hT
  have tok1 : True := trivial
  rcases hev with rfl | rfl
  all_goals
    go_enter Ybaf.func9, Ybaf.ntmps9
    go_wp2_with (first | (go_at_call 48; refine hread.mono ?_; rintro e w2 ⟨rfl, haf⟩; have hcv := conv_after haf; have hE2 := eof_after haf hR0 hRw hE) | (go_at_call 15; have _t := tok1; refine (p2 _).mono ?_; rintro e w' ⟨rfl, rfl⟩; clear tok1) | (go_at_call 15; refine (p1 _).mono ?_; rintro e w' ⟨rfl, rfl⟩))
    go_ret2
    exact ⟨rfl, magic_of_after haf⟩
theorem trim_any (w : World) : Calls Ybaf.prog 16 #[.string ⟨#[116, 117, 111, 103, 117, 97, 110, 32, 106, 111, 117, 114, 110, 97, 108, 32, 50, 10]⟩, .string ⟨#[10]⟩] w fun e w' => (∃ s, e = .returned (.string s)) ∧ w = w' := by
  go_enter Ybaf.func16, Ybaf.ntmps16
  go_wp2
  all_goals
    go_ret
    exact ⟨⟨_, rfl⟩, rfl⟩

/-- Behind fmt's own blocks. -/
theorem magic_later {w w2 w3 : World} {R : Nat} {v f : Value} {o : Obj} (h : Magic w w2 R v f) (hb : Below (w2.alloc o).heap.size (w2.alloc o) w3) : Magic w w3 R v f := by
  obtain ⟨g3, c3, g4, c4, hr, h3, h4⟩ := h.rd
  have b2 : Below w2.heap.size w2 w3 := ((Below.refl w2.heap.size w2).alloc (Nat.le_refl _) o).trans (hb.mono (by simp))
  refine ⟨⟨g3, c3, g4, c4, rd_below hr b2 (rd_lt hr), ?_, ?_⟩, h.keep.trans (keep_below b2)⟩
  · rw [b2.cell (p := ⟨g3, 0, none⟩) (World.block_lt_of_cell? w2 _ h3)]; exact h3
  · rw [b2.cell (p := ⟨g4, 0, none⟩) (World.block_lt_of_cell? w2 _ h4)]; exact h4

set_option maxRecDepth 4000 in
set_option maxHeartbeats 1000000 in
theorem magic_no (R : Nat) (v : Value) (q : Addr) (ev : Value) (hev : Ev q ev) (T : List UInt8) (hT : T.length ≤ 18) (w : World) (hR0 : 0 < R) (hRw : R < w.heap.size) (hE : w.cell? ⟨0, 0, none⟩ = some (.iface 51 (.pointer (some q))))
    (hread : Calls Ybaf.prog 48 #[.pointer (some ⟨R, 0, none⟩), .slice (some ⟨w.heap.size, 0, none⟩) 18 18, .int .i64 0] (w.alloc (.cells zeros18 5)) fun e w2 => e = .returned (.tuple #[.int .i64 T.length, ev]) ∧ After (w.alloc (.cells zeros18 5)) w2 R w.heap.size v .nilIface T)
    (t2 : (T == [116, 117, 111, 103, 117, 97, 110, 32, 106, 111, 117, 114, 110, 97, 108, 32, 50, 10]) = false) (t1 : (T == [116, 117, 111, 103, 117, 97, 110, 32, 106, 111, 117, 114, 110, 97, 108, 32, 49, 10]) = false) (p2 : ∀ w, Calls Ybaf.prog 15 #[.string ⟨#[116, 117, 111, 103, 117, 97, 110, 32, 106, 111, 117, 114, 110, 97, 108, 32, 50, 10]⟩, .string ⟨T.toArray⟩] w fun e w' => e = .returned (.bool false) ∧ w = w') (p1 : ∀ w, Calls Ybaf.prog 15 #[.string ⟨#[116, 117, 111, 103, 117, 97, 110, 32, 106, 111, 117, 114, 110, 97, 108, 32, 49, 10]⟩, .string ⟨T.toArray⟩] w fun e w' => e = .returned (.bool false) ∧ w = w') :
    Calls Ybaf.prog 9 #[.iface 32 (.pointer (some ⟨R, 0, none⟩)), .string ⟨#[106]⟩] w fun e w' => (∃ x, e = .returned (.tuple #[.int .i64 0, .iface 51 x])) ∧ Magic w w' R v .nilIface := by
  have hmk := make18
  have hmt := method_read
  have hsl := fun w2 => slice_head w.heap.size T.length hT w2
  have hneq := eql51 q
  have hne1 := fun w t x => run_neq_iface_nil (P := Ybaf.prog) w 25 iface25 t x
  have hne2 := fun w => run_neq_nil_nil_at (P := Ybaf.prog) w 25 iface25
  have hTi : (T.length : Int) ≤ 18 := by omega
  have HT : Hid (T.length ≤ 18) := hT
  clear hT
  have tok1 : True := trivial
  rcases hev with rfl | rfl
  all_goals
    go_enter Ybaf.func9, Ybaf.ntmps9
    go_wp2_with (first | (go_at_call 48; refine hread.mono ?_; rintro e w2 ⟨rfl, haf⟩; have hcv := conv_after haf; have hE2 := eof_after haf hR0 hRw hE) | (go_at_call 15; have _t := tok1; refine (p2 _).mono ?_; rintro e w' ⟨rfl, rfl⟩; clear tok1) | (go_at_call 15; refine (p1 _).mono ?_; rintro e w' ⟨rfl, rfl⟩) | (go_at_call 16; refine (trim_any _).mono ?_; rintro e w' ⟨⟨s0, rfl⟩, rfl⟩) | (go_at_call 13; refine (errorf_two w2.heap.size ⟨#[106]⟩ s0 _ (by simp) (by simp)).mono ?_; rintro e w3 ⟨x, rfl, hb3⟩))
    go_ret2
    exact ⟨⟨_, rfl⟩, magic_later (magic_of_after haf) hb3⟩
end Go.Proofs.YbulkekcFmt
