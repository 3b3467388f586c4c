/-
  The reader's struct in memory; THE WALK of its method ReadAt.
-/
import Derived.Test.YbulkekcFmtPrefix
import Derived.Deep.AppendLies
import Derived.Laws.CopyOwn
import Derived.Stop.IfaceNil
namespace Go.Proofs.YbulkekcFmt
open Go.RowKit

theorem iface25 : Ybaf.prog.isIface 25 = true := by kernel_rfl
theorem info2 : (Ybaf.prog.info? 2).map (fun i => (i.zero, i.size, i.bytes)) = some (some (.int .i64 0), 1, 8) := by kernel_rfl
theorem info3 : (Ybaf.prog.info? 3).map (fun i => (i.zero, i.size, i.bytes)) = some (some (.int .i64 0), 1, 8) := by kernel_rfl
theorem info5 : (Ybaf.prog.info? 5).map (fun i => (i.zero, i.size, i.bytes)) = some (some (.int .u8 0), 1, 1) := by kernel_rfl
theorem size5 : (Ybaf.prog.info? 5).map (·.size) = some 1 := by kernel_rfl

def bv (b : UInt8) : Value := .int .u8 (b.toNat : Int)

/-- The reader lies in block R. -/
structure Rd (w : World) (R : Nat) (v f c o l : Value) : Prop where
  lie : w.heap[R]? = some (.cells #[v, f, c, o, l] 36 (0, 0))

theorem rd_lt {w : World} {R : Nat} {v f c o l : Value} (h : Rd w R v f c o l) : R < w.heap.size := lt_of_block h.lie
theorem rd_cells {w : World} {R : Nat} {v f c o l : Value} (h : Rd w R v f c o l) :
    w.cell? ⟨R, 0, none⟩ = some v ∧ w.cell? ⟨R, 1, none⟩ = some f ∧ w.cell? ⟨R, 2, none⟩ = some c ∧ w.cell? ⟨R, 3, none⟩ = some o ∧ w.cell? ⟨R, 4, none⟩ = some l ∧ ∀ j, w.frozen? ⟨R, j, none⟩ = false := by
  refine ⟨?_, ?_, ?_, ?_, ?_, fun j => ?_⟩ <;> simp [World.cell?, World.frozen?, h.lie]
theorem rd_below {w w' : World} {C R : Nat} {v f c o l : Value} (h : Rd w R v f c o l) (hb : Below C w w') (hC : R < C) : Rd w' R v f c o l :=
  ⟨by rw [hb.block R hC]; exact h.lie⟩
theorem rd_set {w : World} {R j : Nat} {v f c o l u : Value} {C : Array Value} (h : Rd w R v f c o l) (hC : (#[v, f, c, o, l] : Array Value).setIfInBounds j u = C) : (w.setCell ⟨R, j, none⟩ u).heap[R]? = some (.cells C 36 (0, 0)) := by
  rw [← hC]
  exact heap_setCell_same w R j _ 36 u h.lie
theorem rd_set2 {w : World} {R : Nat} {v f c o l : Value} (h : Rd w R v f c o l) (u : Value) : Rd (w.setCell ⟨R, 2, none⟩ u) R v f u o l := ⟨rd_set h rfl⟩
theorem rd_set3 {w : World} {R : Nat} {v f c o l : Value} (h : Rd w R v f c o l) (u : Value) : Rd (w.setCell ⟨R, 3, none⟩ u) R v f c u l := ⟨rd_set h rfl⟩
theorem rd_set4 {w : World} {R : Nat} {v f c o l : Value} (h : Rd w R v f c o l) (u : Value) : Rd (w.setCell ⟨R, 4, none⟩ u) R v f c o u := ⟨rd_set h rfl⟩
theorem rd_alloc {w : World} {R : Nat} {v f c o l : Value} (h : Rd w R v f c o l) (x : Obj) : Rd (w.alloc x) R v f c o l :=
  rd_below h ((Below.refl w.heap.size w).alloc (Nat.le_refl _) x) (rd_lt h)
theorem below_of_grown {w w' : World} (hg : w.grownBy w' none) : Below w.heap.size w w' := (Below.refl _ _).grown hg (Nat.le_refl _) (fun k hk => by cases hk)

/-- Nothing that was there has turned but block R. -/
structure Keep (R : Nat) (w w' : World) : Prop where
  os : w'.os = w.os
  tape : w'.tape = w.tape
  output : w'.output = w.output
  size : w.heap.size ≤ w'.heap.size
  block : ∀ k, k < w.heap.size → k ≠ R → w'.heap[k]? = w.heap[k]?

theorem Keep.trans {R : Nat} {a b c : World} (h : Keep R a b) (k : Keep R b c) : Keep R a c :=
  ⟨k.os.trans h.os, k.tape.trans h.tape, k.output.trans h.output, Nat.le_trans h.size k.size, fun i hi hne => (k.block i (Nat.lt_of_lt_of_le hi h.size) hne).trans (h.block i hi hne)⟩
theorem keep_set (R j : Nat) (w : World) (u : Value) : Keep R w (w.setCell ⟨R, j, none⟩ u) :=
  ⟨rfl, rfl, rfl, by simp, fun k _ hne => Below.heap_setCell w ⟨R, j, none⟩ u k hne⟩
theorem keep_below {R : Nat} {w w' : World} (hb : Below w.heap.size w w') : Keep R w w' :=
  ⟨hb.os, hb.tape, hb.output, hb.size, fun k hk _ => hb.block k hk⟩
theorem keep_alloc (R : Nat) (w : World) (o : Obj) : Keep R w (w.alloc o) := keep_below ((Below.refl _ _).alloc (Nat.le_refl _) o)
theorem Keep.below {R : Nat} {w w' : World} (h : Keep R w w') (hR : R ≤ w.heap.size) : Below R w w' :=
  ⟨h.os, h.tape, h.output, h.size, fun k hk => h.block k (by omega) (by omega)⟩
theorem Keep.cell {R : Nat} {w w' : World} (h : Keep R w w') {b o : Nat} (hb : b < w.heap.size) (hne : b ≠ R) : w'.cell? ⟨b, o, none⟩ = w.cell? ⟨b, o, none⟩ :=
  World.cell?_of_block (h.block b hb hne)

theorem new_one {X : World} {n : Nat} {a : Value} {t : TypeId} (hn : n = X.heap.size) : ∀ j u, [a][j]? = some u → (X.alloc (.cells #[a] t)).cell? ((⟨n, 0, none⟩ : Addr).add j) = some u := by
  intro j u hj
  subst hn
  exact cell_one_new _ _ _ j u hj
theorem one_one (a : Value) (h : a.oneCell' = true) : ∀ u ∈ [a], u.oneCell' = true := by
  intro u hu
  simp at hu
  subst hu
  exact h

/-- Behind 'r.calls++' and the first append. -/
theorem mid_one {w w1 : World} {R g cap : Nat} {v f x : Value} {o : Obj} {e : TypeId} (h : Rd w R v f (.int .i64 0) (.slice none 0 0) (.slice none 0 0))
    (hg : ((w.setCell ⟨R, 2, none⟩ (.int .i64 1)).alloc o).grownBy w1 none) (ho : w1.ownsRow w.heap.size e 1 (.slice (some ⟨g, 0, none⟩) 1 cap) 1 [x]) :
    Rd w1 R v f (.int .i64 1) (.slice none 0 0) (.slice none 0 0) ∧ Keep R w w1 ∧ w.heap.size ≤ g ∧ g < w1.heap.size ∧ w1.cell? ⟨g, 0, none⟩ = some x := by
  have hb := below_of_grown hg
  have hr := rd_alloc (rd_set2 h (.int .i64 1)) o
  have hl := ho.lt g rfl
  refine ⟨rd_below hr hb (rd_lt hr), ((keep_set R 2 w _).trans (keep_alloc R _ o)).trans (keep_below hb), hl.1, hl.2, ?_⟩
  rw [ho.cellAt 0 (by omega)]
  rfl

/-- Behind the second append. -/
theorem mid_two {w w1 w2 : World} {R g cap g' cap' : Nat} {v f x y : Value} {o : Obj} {e' : TypeId}
    (h : Rd w1 R v f (.int .i64 1) (.slice none 0 0) (.slice none 0 0)) (hR : R < w.heap.size) (hk : Keep R w w1) (hge : w.heap.size ≤ g) (hlt : g < w1.heap.size) (hx : w1.cell? ⟨g, 0, none⟩ = some x)
    (hg : ((w1.setCell ⟨R, 3, none⟩ (.slice (some ⟨g, 0, none⟩) 1 cap)).alloc o).grownBy w2 none) (ho : w2.ownsRow w1.heap.size e' 1 (.slice (some ⟨g', 0, none⟩) 1 cap') 1 [y]) :
    Rd w2 R v f (.int .i64 1) (.slice (some ⟨g, 0, none⟩) 1 cap) (.slice none 0 0) ∧ Keep R w w2 ∧ w2.cell? ⟨g, 0, none⟩ = some x ∧ w.heap.size ≤ g' ∧ g' < w2.heap.size ∧ w2.cell? ⟨g', 0, none⟩ = some y := by
  have hb := below_of_grown hg
  have hr := rd_alloc (rd_set3 h (.slice (some ⟨g, 0, none⟩) 1 cap)) o
  have hl := ho.lt g' rfl
  have hs := hk.size
  have k2 : Keep R w1 w2 := ((keep_set R 3 w1 _).trans (keep_alloc R _ o)).trans (keep_below hb)
  refine ⟨rd_below hr hb (rd_lt hr), hk.trans k2, by rw [k2.cell hlt (by omega)]; exact hx, by omega, hl.2, ?_⟩
  rw [ho.cellAt 0 (by omega)]
  rfl

/-- What ReadAt leaves: T: the bytes that it has read. -/
structure After (w w' : World) (R B : Nat) (v f : Value) (T : List UInt8) : Prop where
  rd : ∃ g3 c3 g4 c4, Rd w' R v f (.int .i64 1) (.slice (some ⟨g3, 0, none⟩) 1 c3) (.slice (some ⟨g4, 0, none⟩) 1 c4) ∧ w'.cell? ⟨g3, 0, none⟩ = some (.int .i64 0) ∧ w'.cell? ⟨g4, 0, none⟩ = some (.int .i64 18)
  row : ∃ cur, w'.heap[B]? = some (.cells cur 5 (0, 0)) ∧ cur.size = 18 ∧ cur.toList.take T.length = T.map bv
  os : w'.os = w.os
  tape : w'.tape = w.tape
  output : w'.output = w.output
  size : w.heap.size ≤ w'.heap.size
  block : ∀ k, k < w.heap.size → k ≠ R → k ≠ B → w'.heap[k]? = w.heap[k]?

theorem after_drew {w w' : World} {R B : Nat} {v f : Value} {T : List UInt8} (h : After w w' R B v f T) : After w w'.drew R B v f T := by
  obtain ⟨g3, c3, g4, c4, hr, h3, h4⟩ := h.rd
  exact ⟨⟨g3, c3, g4, c4, ⟨hr.lie⟩, h3, h4⟩, h.row, h.os, h.tape, h.output, h.size, h.block⟩

/-- Nothing was copied. -/
theorem after_none {w w2 : World} {R B g cap g' cap' : Nat} {v f : Value} {Z : Array Value} (hr : Rd w2 R v f (.int .i64 1) (.slice (some ⟨g, 0, none⟩) 1 cap) (.slice none 0 0)) (hk : Keep R w w2) (hRw : R < w.heap.size) (hge : w.heap.size ≤ g) (hge' : w.heap.size ≤ g')
    (hx : w2.cell? ⟨g, 0, none⟩ = some (.int .i64 0)) (hy : w2.cell? ⟨g', 0, none⟩ = some (.int .i64 18)) (hZ : w.heap[B]? = some (.cells Z 5 (0, 0))) (hz : Z.size = 18) (hRB : R ≠ B) :
    After w (w2.setCell ⟨R, 4, none⟩ (.slice (some ⟨g', 0, none⟩) 1 cap')) R B v f [] := by
  have kk : Keep R w (w2.setCell ⟨R, 4, none⟩ (.slice (some ⟨g', 0, none⟩) 1 cap')) := hk.trans (keep_set R 4 w2 _)
  have hB := lt_of_block hZ
  refine ⟨⟨g, cap, g', cap', rd_set4 hr _, ?_, ?_⟩, ⟨Z, ?_, hz, by simp⟩, kk.os, kk.tape, kk.output, kk.size, fun k h1 h2 _ => kk.block k h1 h2⟩
  · rw [World.cell?_of_block (Below.heap_setCell w2 ⟨R, 4, none⟩ _ g (show g ≠ R by omega))]; exact hx
  · rw [World.cell?_of_block (Below.heap_setCell w2 ⟨R, 4, none⟩ _ g' (show g' ≠ R by omega))]; exact hy
  · rw [kk.block B hB (fun e => hRB e.symm)]; exact hZ

set_option maxHeartbeats 1000000 in
theorem readAt_fail (R B : Nat) (v : Value) (t : TypeId) (x : Value) (Z : Array Value) (w : World) (h : Rd w R v (.iface t x) (.int .i64 0) (.slice none 0 0) (.slice none 0 0)) (hRB : R ≠ B) (hZ : w.heap[B]? = some (.cells Z 5 (0, 0))) (hz : Z.size = 18) :
    Calls Ybaf.prog 48 #[.pointer (some ⟨R, 0, none⟩), .slice (some ⟨B, 0, none⟩) 18 18, .int .i64 0] w fun e w' => e = .returned (.tuple #[.int .i64 0, .iface t x]) ∧ After w w' R B v (.iface t x) [] := by
  obtain ⟨i2, h2a, h2b, h2c, h2d⟩ := info_parts info2
  obtain ⟨i3, h3a, h3b, h3c, h3d⟩ := info_parts info3
  have hne := fun w t x => run_neq_iface_nil (P := Ybaf.prog) w 25 iface25 t x
  have hlt := rd_lt h
  obtain ⟨c0, c1, c2, c3, c4, cf⟩ := rd_cells h
  have HZ : Hid (w.heap[B]? = some (.cells Z 5 (0, 0))) := hZ
  have Hz : Hid (Z.size = 18) := hz
  clear hZ hz
  go_enter Ybaf.func48, Ybaf.ntmps48
  go_wp2_with (first | (at_builtin; refine wpList_append_lies _ rfl (.tmp 20) (.tmp 22) 33 rfl w.heap.size 2 i2 (.int .i64 0) 1 8 Ybaf.underlying33 h2a h2b h2c h2d rfl (by decide) _ 0 [] rfl (World.ownsRow_nil _ _ _ _) ⟨w.heap.size, 0, none⟩ 1 1 [.int .i64 0] rfl rfl (new_one (by simp)) (one_one _ rfl) (by decide) (by unfold maxLen; omega) (by omega) (by simp) (w.heap.size + 1) (by simp) ?_))
  intro g3 k3 w1 ho1 hg1 _ _
  obtain ⟨r1, kp1, ge1, lt1, x1⟩ := mid_one h hg1 ho1
  have hlt1 := rd_lt r1
  obtain ⟨d0, d1, d2, d3, d4, df⟩ := rd_cells r1
  clear c0 c1 c2 c3 c4 cf ho1 hg1
  go_wp2_with (first | (at_builtin; refine wpList_append_lies _ rfl (.tmp 30) (.tmp 33) 34 rfl w1.heap.size 3 i3 (.int .i64 0) 1 8 Ybaf.underlying34 h3a h3b h3c h3d rfl (by decide) _ 0 [] rfl (World.ownsRow_nil _ _ _ _) ⟨w1.heap.size, 0, none⟩ 1 1 [.int .i64 18] rfl rfl (new_one (by simp)) (one_one _ rfl) (by decide) (by unfold maxLen; omega) (by omega) (by simp) (w1.heap.size + 1) (by simp) ?_))
  intro g4 k4 w2 ho2 hg2 _ _
  obtain ⟨r2, kp2, x2, ge2, lt2, y2⟩ := mid_two r1 hlt kp1 ge1 lt1 x1 hg2 ho2
  have hlt2 := rd_lt r2
  obtain ⟨e0, e1, e2, e3, e4, ef⟩ := rd_cells r2
  have R0 := after_none (cap' := k4) r2 kp2 hlt ge1 ge2 x2 y2 HZ.out Hz.out hRB
  clear d0 d1 d2 d3 d4 df ho2 hg2 x1 x2 y2
  go_wp2
  go_region
  all_goals
    go_wp2
    go_ret2
    exact ⟨rfl, after_drew R0⟩
end Go.Proofs.YbulkekcFmt
