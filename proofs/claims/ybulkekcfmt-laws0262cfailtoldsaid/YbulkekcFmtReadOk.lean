/-
  THE WALK of ReadAt where the reader does not fail.
-/
import Derived.Test.YbulkekcFmtReader
import Derived.Deep.Cut
namespace Go.Proofs.YbulkekcFmt
open Go.RowKit

/-- Bytes were copied. -/
theorem after_copy {w w2 : World} {R B g cap g' cap' : Nat} {v f : Value} {Z : Array Value} {T : List UInt8} (hr : Rd w2 R v f (.int .i64 1) (.slice (some ⟨g, 0, none⟩) 1 cap) (.slice none 0 0)) (hk : Keep R w w2) (hRw : R < w.heap.size) (hge : w.heap.size ≤ g) (hge' : w.heap.size ≤ g')
    (hx : w2.cell? ⟨g, 0, none⟩ = some (.int .i64 0)) (hy : w2.cell? ⟨g', 0, none⟩ = some (.int .i64 18)) (hZ : w.heap[B]? = some (.cells Z 5 (0, 0))) (hz : Z.size = 18) (hRB : R ≠ B) (hT : T.length ≤ 18) :
    After w ((w2.setCell ⟨R, 4, none⟩ (.slice (some ⟨g', 0, none⟩) 1 cap')).setRow B (Z.toList.take 0 ++ (T.map bv ++ Z.toList.drop (0 + (T.map bv).length))).toArray) R B v f T := by
  have hB := lt_of_block hZ
  have A := after_none (cap' := cap') hr hk hRw hge hge' hx hy hZ hz hRB
  obtain ⟨g3, c3, g4, c4, hr3, h3, h4⟩ := A.rd
  have hg : (w2.setCell ⟨R, 4, none⟩ (.slice (some ⟨g', 0, none⟩) 1 cap')).heap[B]? = some (.cells Z 5 (0, 0)) := by
    rw [(hk.trans (keep_set R 4 w2 _)).block B hB (fun e => hRB e.symm)]; exact hZ
  have hgR : g ≠ R := by omega
  have hgR' : g' ≠ R := by omega
  refine ⟨⟨g, cap, g', cap', ⟨?_⟩, ?_, ?_⟩, ⟨_, setRow_heap _ B Z _ 5 _ hg, ?_, ?_⟩, A.os, A.tape, A.output, by simpa using A.size, fun k h1 h2 h3 => ?_⟩
  · rw [setRow_other _ B R _ hRB]
    exact (rd_set4 hr _).lie
  · rw [cell_setRow_other _ B _ ⟨g, 0, none⟩ (show g ≠ B by omega), World.cell?_of_block (Below.heap_setCell w2 ⟨R, 4, none⟩ _ g hgR)]
    exact hx
  · rw [cell_setRow_other _ B _ ⟨g', 0, none⟩ (show g' ≠ B by omega), World.cell?_of_block (Below.heap_setCell w2 ⟨R, 4, none⟩ _ g' hgR')]
    exact hy
  · simp; omega
  · simp
  · rw [setRow_other _ B k _ h3]
    exact A.block k h1 h2 h3

set_option maxHeartbeats 1000000 in
theorem readAt_empty (R B : Nat) (ao : Option Addr) (cp : Nat) (E : Value) (Z : Array Value) (w : World) (h : Rd w R (.slice ao 0 cp) .nilIface (.int .i64 0) (.slice none 0 0) (.slice none 0 0)) (hRB : R ≠ B) (hR0 : 0 < R) (hE : w.cell? ⟨0, 0, none⟩ = some E) (hZ : w.heap[B]? = some (.cells Z 5 (0, 0))) (hz : Z.size = 18) :
    Calls Ybaf.prog 48 #[.pointer (some ⟨R, 0, none⟩), .slice (some ⟨B, 0, none⟩) 18 18, .int .i64 0] w fun e w' => e = .returned (.tuple #[.int .i64 0, E]) ∧ After w w' R B (.slice ao 0 cp) .nilIface [] := by
  obtain ⟨i2, h2a, h2b, h2c, h2d⟩ := info_parts info2
  obtain ⟨i3, h3a, h3b, h3c, h3d⟩ := info_parts info3
  have hne := fun w => run_neq_nil_nil_at (P := Ybaf.prog) w 25 iface25
  have hlt := rd_lt h
  obtain ⟨c0, c1, c2, c3, c4, cf⟩ := rd_cells h
  have HZ : Hid (w.heap[B]? = some (.cells Z 5 (0, 0))) := hZ
  have Hz : Hid (Z.size = 18) := hz
  clear hZ hz
  go_enter Ybaf.func48, Ybaf.ntmps48
  go_wp2_with (first | (at_builtin; refine wpList_append_lies _ rfl (.tmp 20) (.tmp 22) 33 rfl w.heap.size 2 i2 (.int .i64 0) 1 8 Ybaf.underlying33 h2a h2b h2c h2d rfl (by decide) _ 0 [] rfl (World.ownsRow_nil _ _ _ _) ⟨w.heap.size, 0, none⟩ 1 1 [.int .i64 0] rfl rfl (new_one (by simp)) (one_one _ rfl) (by decide) (by unfold maxLen; omega) (by omega) (by simp) (w.heap.size + 1) (by simp) ?_))
  intro g3 k3 w1 ho1 hg1 _ _
  obtain ⟨r1, kp1, ge1, lt1, x1⟩ := mid_one h hg1 ho1
  have hlt1 := rd_lt r1
  obtain ⟨d0, d1, d2, d3, d4, df⟩ := rd_cells r1
  clear c0 c1 c2 c3 c4 cf ho1 hg1
  go_wp2_with (first | (at_builtin; refine wpList_append_lies _ rfl (.tmp 30) (.tmp 33) 34 rfl w1.heap.size 3 i3 (.int .i64 0) 1 8 Ybaf.underlying34 h3a h3b h3c h3d rfl (by decide) _ 0 [] rfl (World.ownsRow_nil _ _ _ _) ⟨w1.heap.size, 0, none⟩ 1 1 [.int .i64 18] rfl rfl (new_one (by simp)) (one_one _ rfl) (by decide) (by unfold maxLen; omega) (by omega) (by simp) (w1.heap.size + 1) (by simp) ?_))
  intro g4 k4 w2 ho2 hg2 _ _
  obtain ⟨r2, kp2, x2, ge2, lt2, y2⟩ := mid_two r1 hlt kp1 ge1 lt1 x1 hg2 ho2
  have hlt2 := rd_lt r2
  obtain ⟨e0, e1, e2, e3, e4, ef⟩ := rd_cells r2
  have R0 := after_none (cap' := k4) r2 kp2 hlt ge1 ge2 x2 y2 HZ.out Hz.out hRB
  have hE2 : w2.cell? ⟨0, 0, none⟩ = some E := by rw [kp2.cell (by omega) (by omega)]; exact hE
  have hE3 : ∀ u, (w2.setCell ⟨R, 4, none⟩ u).cell? ⟨0, 0, none⟩ = some E := fun u => by rw [World.cell?_of_block (Below.heap_setCell w2 ⟨R, 4, none⟩ u 0 (by show 0 ≠ R; omega))]; exact hE2
  clear d0 d1 d2 d3 d4 df ho2 hg2 x1 x2 y2 hE
  go_wp2
  go_region
  all_goals
    go_wp2
    go_ret2
    exact ⟨rfl, after_drew R0⟩

/-- What ReadAt gives beside the number of bytes. -/
def eofOr (E : Value) (n : Nat) : Value := if n < 18 then E else .nilIface
theorem eofOr_short {E : Value} {n : Nat} (h : n < 18) : eofOr E n = E := by unfold eofOr; rw [if_pos h]
theorem eofOr_long {E : Value} {n : Nat} (h : ¬ n < 18) : eofOr E n = .nilIface := by unfold eofOr; rw [if_neg h]

/-- The cut at 0 is the slice itself. -/
theorem slice_zero (b off n cp : Nat) (hc : ¬ cp = 0) (w : World) : (Instr.slice 31 (.slice (some ⟨b, off, none⟩) n cp) (some (.int .i64 0)) none none).run Ybaf.prog w = .ok (.slice (some ⟨b, off, none⟩) n cp) w := by
  rw [run_slice_l w 31 (some ⟨b, off, none⟩) n cp (by kernel_rfl) .i64 0 (by omega) (by omega)]
  have e : (sizeOf (Ybaf.prog.elem 31)).run Ybaf.prog w = .ok 1 w := by kernel_rfl
  rw [e]
  simp [Result.andThen, sliced, hc, Addr.add_lit]

set_option maxRecDepth 4000 in
set_option maxHeartbeats 1000000 in
theorem readAt_some (R B b off n : Nat) (L : List UInt8) (HL : Hid (L.length = n)) (cp : Nat) (E : Value) (Z : Array Value) (w : World) (h : Rd w R (.slice (some ⟨b, off, none⟩) n cp) .nilIface (.int .i64 0) (.slice none 0 0) (.slice none 0 0)) (hRB : R ≠ B) (hR0 : 0 < R) (hB0 : 0 < B) (hE : w.cell? ⟨0, 0, none⟩ = some E) (hZ : w.heap[B]? = some (.cells Z 5 (0, 0))) (hz : Z.size = 18)
    (hL0 : 0 < n) (hLb : n ≤ 1000000) (hcp : n ≤ cp) (hb : b < w.heap.size) (hbR : b ≠ R) (hc : ∀ i, i < n → w.cell? ⟨b, off + i, none⟩ = some (.int .u8 ((L.getD i 0).toNat : Int))) :
    Calls Ybaf.prog 48 #[.pointer (some ⟨R, 0, none⟩), .slice (some ⟨B, 0, none⟩) 18 18, .int .i64 0] w fun e w' => e = .returned (.tuple #[.int .i64 ((L.take 18).length : Int), eofOr E n]) ∧ After w w' R B (.slice (some ⟨b, off, none⟩) n cp) .nilIface (L.take 18) := by
  obtain ⟨i2, h2a, h2b, h2c, h2d⟩ := info_parts info2
  obtain ⟨i3, h3a, h3b, h3c, h3d⟩ := info_parts info3
  have hne := fun w => run_neq_nil_nil_at (P := Ybaf.prog) w 25 iface25
  have hlt := rd_lt h
  obtain ⟨c0, c1, c2, c3, c4, cf⟩ := rd_cells h
  have HZ : Hid (w.heap[B]? = some (.cells Z 5 (0, 0))) := hZ
  have Hz : Hid (Z.size = 18) := hz
  have hcp0 : ¬ cp = 0 := by omega
  obtain ⟨T, hT⟩ : ∃ T, T = L.take 18 := ⟨_, rfl⟩
  have HT : Hid (T = L.take 18) := hT
  have HTl : Hid (T.length ≤ 18) := by show T.length ≤ 18; rw [hT]; simp; omega
  have HM : Hid ((T.map bv).length = Nat.min n 18) := by
    show (T.map bv).length = Nat.min n 18
    rw [hT, List.length_map, List.length_take, HL.out]
    exact Nat.min_comm _ _
  have HW : Hid (∀ i, i < n → w.cell? ⟨b, off + i, none⟩ = some (.int .u8 ((L.getD i 0).toNat : Int))) := hc
  rw [← hT]
  have hdz : decide ((n : Int) ≤ 0) = false := by simp; omega
  have hnz : ¬ n = 0 := by omega
  clear hZ hz hT hc hL0
  go_enter Ybaf.func48, Ybaf.ntmps48
  go_wp2_with (first | (at_builtin; refine wpList_append_lies _ rfl (.tmp 20) (.tmp 22) 33 rfl w.heap.size 2 i2 (.int .i64 0) 1 8 Ybaf.underlying33 h2a h2b h2c h2d rfl (by decide) _ 0 [] rfl (World.ownsRow_nil _ _ _ _) ⟨w.heap.size, 0, none⟩ 1 1 [.int .i64 0] rfl rfl (new_one (by simp)) (one_one _ rfl) (by decide) (by unfold maxLen; omega) (by omega) (by simp) (w.heap.size + 1) (by simp) ?_))
  intro g3 k3 w1 ho1 hg1 _ _
  obtain ⟨r1, kp1, ge1, lt1, x1⟩ := mid_one h hg1 ho1
  have hlt1 := rd_lt r1
  obtain ⟨d0, d1, d2, d3, d4, df⟩ := rd_cells r1
  clear c0 c1 c2 c3 c4 cf ho1 hg1
  go_wp2_with (first | (at_builtin; refine wpList_append_lies _ rfl (.tmp 30) (.tmp 33) 34 rfl w1.heap.size 3 i3 (.int .i64 0) 1 8 Ybaf.underlying34 h3a h3b h3c h3d rfl (by decide) _ 0 [] rfl (World.ownsRow_nil _ _ _ _) ⟨w1.heap.size, 0, none⟩ 1 1 [.int .i64 18] rfl rfl (new_one (by simp)) (one_one _ rfl) (by decide) (by unfold maxLen; omega) (by omega) (by simp) (w1.heap.size + 1) (by simp) ?_))
  intro g4 k4 w2 ho2 hg2 _ _
  obtain ⟨r2, kp2, x2, ge2, lt2, y2⟩ := mid_two r1 hlt kp1 ge1 lt1 x1 hg2 ho2
  have hlt2 := rd_lt r2
  obtain ⟨e0, e1, e2, e3, e4, ef⟩ := rd_cells r2
  have R0 := after_copy (cap' := k4) r2 kp2 hlt ge1 ge2 x2 y2 HZ.out Hz.out hRB HTl.out
  have hE2 : w2.cell? ⟨0, 0, none⟩ = some E := by rw [kp2.cell (by omega) (by omega)]; exact hE
  have hE3 : ∀ u, (w2.setCell ⟨R, 4, none⟩ u).cell? ⟨0, 0, none⟩ = some E := fun u => by rw [World.cell?_of_block (Below.heap_setCell w2 ⟨R, 4, none⟩ u 0 (by show 0 ≠ R; omega))]; exact hE2
  have HE4 : Hid (∀ u C, ((w2.setCell ⟨R, 4, none⟩ u).setRow B C).cell? ⟨0, 0, none⟩ = some E) := fun u C => by rw [cell_setRow_other _ B C ⟨0, 0, none⟩ (by show 0 ≠ B; omega)]; exact hE3 u
  have HG : Hid (∀ u, (w2.setCell ⟨R, 4, none⟩ u).heap[B]? = some (.cells Z 5 (0, 0))) := fun u => by
    rw [(kp2.trans (keep_set R 4 w2 u)).block B (lt_of_block HZ.out) (fun e => hRB e.symm)]; exact HZ.out
  have HS : Hid (∀ u, ∀ j x, (T.map bv)[j]? = some x → (w2.setCell ⟨R, 4, none⟩ u).cell? ((⟨b, off, none⟩ : Addr).add j) = some x) := fun u j x hj => by
    have hjT : j < T.length := by have := (List.getElem?_eq_some_iff.1 hj).1; simpa using this
    have hLn := HL.out
    have hjL : j < L.length ∧ j < 18 := by rw [HT.out] at hjT; simp at hjT; omega
    rw [Addr.add_lit, (kp2.trans (keep_set R 4 w2 u)).cell hb hbR, HW.out j (by omega)]
    rw [HT.out] at hj
    simp [hjL.2, List.getElem?_eq_getElem hjL.1, bv] at hj
    simp [List.getD, List.getElem?_eq_getElem hjL.1, hj]
  have HO : Hid (∀ u ∈ T.map bv, u.oneCell' = true) := fun u hu => by
    obtain ⟨_, _, rfl⟩ := List.mem_map.1 hu
    rfl
  clear d0 d1 d2 d3 d4 df ho2 hg2 x1 x2 y2 hE
  go_upto_region 8 with fail
  have hsl := slice_zero b off n cp hcp0
  have hcopy := fun ty u => run_copy_row (P := Ybaf.prog) (w2.setCell ⟨R, 4, none⟩ u) 31 31 ty 5 B 0 18 18 ⟨b, off, none⟩ n cp Z 5 (T.map bv) Ybaf.underlying31 size5 (HG.out u) HM.out (HS.out u) (by have h1 := Hz.out; have h2 := HTl.out; simp; omega) HO.out
  clear hdz hnz hcp0 hcp
  have hTn : T.length = min n 18 := by have := HM.out; rw [List.length_map] at this; exact this
  by_cases h18 : n < 18
  · have HV : Hid (eofOr E n = E) := eofOr_short h18
    have hsh : (T.length : Int) < 18 := by omega
    have hE4 := HE4.out
    clear hTn h18
    go_wp2_with fail
    go_region
    all_goals
      go_wp2
      go_ret2
      refine ⟨by rw [HV.out]; rfl, after_drew ?_⟩
      simpa using R0
  · have HV : Hid (eofOr E n = .nilIface) := eofOr_long h18
    have hsh : ¬ (T.length : Int) < 18 := by omega
    clear hTn h18
    go_wp2_with fail
    go_ret2
    refine ⟨by rw [HV.out]; rfl, ?_⟩
    simpa using R0

/-- Both in one. -/
theorem readAt_ok (R B : Nat) (ao : Option Addr) (L : List UInt8) (cp : Nat) (E : Value) (Z : Array Value) (w : World) (h : Rd w R (.slice ao L.length cp) .nilIface (.int .i64 0) (.slice none 0 0) (.slice none 0 0)) (hRB : R ≠ B) (hR0 : 0 < R) (hB0 : 0 < B) (hE : w.cell? ⟨0, 0, none⟩ = some E) (hZ : w.heap[B]? = some (.cells Z 5 (0, 0))) (hz : Z.size = 18)
    (hLb : L.length ≤ 1000000) (hcp : L.length ≤ cp) (hrow : RowB w ao L) (hbR : ∀ b off, ao = some ⟨b, off, none⟩ → b ≠ R) :
    Calls Ybaf.prog 48 #[.pointer (some ⟨R, 0, none⟩), .slice (some ⟨B, 0, none⟩) 18 18, .int .i64 0] w fun e w' => e = .returned (.tuple #[.int .i64 ((L.take 18).length : Int), eofOr E L.length]) ∧ After w w' R B (.slice ao L.length cp) .nilIface (L.take 18) := by
  by_cases h0 : L = []
  · subst h0
    exact readAt_empty R B ao cp E Z w h hRB hR0 hE hZ hz
  · have hp : 0 < L.length := List.length_pos_iff.2 h0
    obtain ⟨b, off, rfl, hb, hc⟩ := hrow.lie hp
    exact readAt_some R B b off L.length L rfl cp E Z w h hRB hR0 hB0 hE hZ hz hp hLb hcp hb (hbR b off rfl) hc
end Go.Proofs.YbulkekcFmt
