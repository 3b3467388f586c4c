/-
  THE WALK of LawS0262CVersion.
-/
import Derived.Test.YbulkekcFmtVersionParts
namespace Go.Proofs.YbulkekcFmt
open Go.RowKit

set_option maxRecDepth 4000 in
set_option maxHeartbeats 4000000 in
theorem version_small (mode k pos : Int) (m0 : 0 ≤ mode) (m1 : mode ≤ 255) (k0 : 0 ≤ k) (k1 : k ≤ 255) (q0 : 0 ≤ pos) (q1 : pos ≤ 65535) (tweak : Bool) (a : Option Addr) (D : List UInt8) (n : Nat) (HD : Hid (D.length = n)) (c : Nat) (w : World) (hn : n ≤ 1024) (hD : Came w a D c) (q : Addr) (h0 : 0 < w.heap.size) (hE : w.cell? ⟨0, 0, none⟩ = some (.iface 51 (.pointer (some q)))) :
    Calls Ybaf.prog 5 #[.int .u8 mode, .int .u8 k, .bool tweak, .int .u16 pos, .slice a n c] w fun e w' => e = .returned (.bool true) ∧ Below w.heap.size w w' := by
  obtain ⟨i5, h5a, h5b, h5c, h5d⟩ := info_parts info5
  go_enter Ybaf.func5, Ybaf.ntmps5
  go_upto_block 0 with fail
  go_cut [11] from 17 (fun v wc => Buf w v wc)
  case first =>
    have hm : mode % 5 = 0 ∨ mode % 5 = 1 ∨ mode % 5 = 2 ∨ mode % 5 = 3 ∨ mode % 5 = 4 := by omega
    rcases hm with hm | hm | hm | hm | hm
    · have t0 : (mode % 5 == 0) = true := by rw [hm]; rfl
      clear hm
      cases a with
      | none =>
        obtain ⟨hD0, rfl⟩ := hD.nil rfl
        obtain rfl : n = 0 := by have := HD.out; rw [hD0] at this; simpa using this.symm
        clear hD0
        go_wp2_with (first | (at_builtin; refine wpList_append_own_none rfl (.tmp 31) (.tmp 32) 31 rfl w.heap.size 5 i5 1 Ybaf.underlying31 h5a _ 0 [] rfl (World.ownsRow_nil _ _ _ _) rfl ?_))
        go_meet
        case rel => exact ⟨⟨[], by simp, World.ownsRow_nil _ _ _ _⟩, Below.refl _ _⟩
      | some x =>
        go_wp2_with (first | (at_builtin; refine wpList_append_own _ rfl (.tmp 31) (.tmp 32) 31 rfl w.heap.size 5 i5 (.int .u8 0) 1 1 Ybaf.underlying31 h5a h5b h5c h5d rfl (by decide) _ 0 [] rfl (World.ownsRow_nil _ _ _ _) x n c (D.map bv) rfl (by rw [List.length_map, HD.out, Nat.mul_one]) (came_cells hD (Below.refl w.heap.size w)) (bv_one D) (by unfold maxLen; omega) (by omega) (Nat.le_refl _) ?_; intro v2 w2 ho2 hg2 _))
        go_meet
        case rel => exact buf_grown (l := D) (Below.refl _ _) (World.ownsRow_nil _ _ _ _) (by simpa using ho2) (by rw [HD.out]; omega) hg2
    · have t0 : (mode % 5 == 0) = false := by rw [hm]; rfl
      have t1 : (mode % 5 == 1) = true := by rw [hm]; rfl
      clear hm
      have tok1 : True := trivial
      cases a with
      | none =>
        obtain ⟨hD0, rfl⟩ := hD.nil rfl
        obtain rfl : n = 0 := by have := HD.out; rw [hD0] at this; simpa using this.symm
        clear hD0
        go_wp2_with (first | (at_builtin; have _t := tok1; refine Lib.wpList_append_own_string _ rfl (.tmp 36) (.const (.string ⟨#[116, 117, 111, 103, 117, 97, 110, 32, 106, 111, 117, 114, 110, 97, 108, 32, 50, 10]⟩)) 31 9 rfl w.heap.size 5 i5 Ybaf.underlying31 Ybaf.underlying9 h5a h5b h5c h5d _ 0 [] rfl (World.ownsRow_nil _ _ _ _) ⟨#[116, 117, 111, 103, 117, 97, 110, 32, 106, 111, 117, 114, 110, 97, 108, 32, 50, 10]⟩ rfl (le18 #[116, 117, 111, 103, 117, 97, 110, 32, 106, 111, 117, 114, 110, 97, 108, 32, 50, 10] (by decide)) (le47 #[116, 117, 111, 103, 117, 97, 110, 32, 106, 111, 117, 114, 110, 97, 108, 32, 50, 10] (by decide)) (Nat.le_refl _) ?_; intro v1 w1 ho0 hg1 _; have ho1 : w1.ownsRow w.heap.size 5 1 v1 18 (([116, 117, 111, 103, 117, 97, 110, 32, 106, 111, 117, 114, 110, 97, 108, 32, 50, 10] : List UInt8).map bv) := ho0; have hb1 := str_below hg1; clear tok1 ho0) | (at_builtin; refine wpList_append_own_none rfl (.tmp 38) (.tmp 39) 31 rfl w.heap.size 5 i5 1 Ybaf.underlying31 h5a _ 18 (([116, 117, 111, 103, 117, 97, 110, 32, 106, 111, 117, 114, 110, 97, 108, 32, 50, 10] : List UInt8).map bv) rfl ho1 rfl ?_))
        go_meet
        case rel => exact buf_grown (l := [116, 117, 111, 103, 117, 97, 110, 32, 106, 111, 117, 114, 110, 97, 108, 32, 50, 10]) (Below.refl _ _) (World.ownsRow_nil _ _ _ _) ho1 (by decide) hg1
      | some x =>
        go_wp2_with (first | (at_builtin; have _t := tok1; refine Lib.wpList_append_own_string _ rfl (.tmp 36) (.const (.string ⟨#[116, 117, 111, 103, 117, 97, 110, 32, 106, 111, 117, 114, 110, 97, 108, 32, 50, 10]⟩)) 31 9 rfl w.heap.size 5 i5 Ybaf.underlying31 Ybaf.underlying9 h5a h5b h5c h5d _ 0 [] rfl (World.ownsRow_nil _ _ _ _) ⟨#[116, 117, 111, 103, 117, 97, 110, 32, 106, 111, 117, 114, 110, 97, 108, 32, 50, 10]⟩ rfl (le18 #[116, 117, 111, 103, 117, 97, 110, 32, 106, 111, 117, 114, 110, 97, 108, 32, 50, 10] (by decide)) (le47 #[116, 117, 111, 103, 117, 97, 110, 32, 106, 111, 117, 114, 110, 97, 108, 32, 50, 10] (by decide)) (Nat.le_refl _) ?_; intro v1 w1 ho0 hg1 _; have ho1 : w1.ownsRow w.heap.size 5 1 v1 18 (([116, 117, 111, 103, 117, 97, 110, 32, 106, 111, 117, 114, 110, 97, 108, 32, 50, 10] : List UInt8).map bv) := ho0; have hb1 := str_below hg1; clear tok1 ho0) | (at_builtin; refine wpList_append_own _ rfl (.tmp 38) (.tmp 39) 31 rfl w.heap.size 5 i5 (.int .u8 0) 1 1 Ybaf.underlying31 h5a h5b h5c h5d rfl (by decide) _ 18 (([116, 117, 111, 103, 117, 97, 110, 32, 106, 111, 117, 114, 110, 97, 108, 32, 50, 10] : List UInt8).map bv) rfl ho1 x n c (D.map bv) rfl (by rw [List.length_map, HD.out, Nat.mul_one]) (came_cells hD hb1) (bv_one D) (by unfold maxLen; omega) (by omega) (by have := hb1.size; omega) ?_; intro v2 w2 ho2 hg2 _))
        go_meet
        case rel => exact buf_grown (l := [116, 117, 111, 103, 117, 97, 110, 32, 106, 111, 117, 114, 110, 97, 108, 32, 50, 10] ++ D) hb1 ho1 (by rw [List.map_append]; exact ho2) (by rw [List.length_append, HD.out]; simp; omega) hg2
    · have t0 : (mode % 5 == 0) = false := by rw [hm]; rfl
      have t1 : (mode % 5 == 1) = false := by rw [hm]; rfl
      have t2 : (mode % 5 == 2) = true := by rw [hm]; rfl
      clear hm
      have tok1 : True := trivial
      cases a with
      | none =>
        obtain ⟨hD0, rfl⟩ := hD.nil rfl
        obtain rfl : n = 0 := by have := HD.out; rw [hD0] at this; simpa using this.symm
        clear hD0
        go_wp2_with (first | (at_builtin; have _t := tok1; refine Lib.wpList_append_own_string _ rfl (.tmp 43) (.const (.string ⟨#[116, 117, 111, 103, 117, 97, 110, 32, 106, 111, 117, 114, 110, 97, 108, 32, 49, 10]⟩)) 31 9 rfl w.heap.size 5 i5 Ybaf.underlying31 Ybaf.underlying9 h5a h5b h5c h5d _ 0 [] rfl (World.ownsRow_nil _ _ _ _) ⟨#[116, 117, 111, 103, 117, 97, 110, 32, 106, 111, 117, 114, 110, 97, 108, 32, 49, 10]⟩ rfl (le18 #[116, 117, 111, 103, 117, 97, 110, 32, 106, 111, 117, 114, 110, 97, 108, 32, 49, 10] (by decide)) (le47 #[116, 117, 111, 103, 117, 97, 110, 32, 106, 111, 117, 114, 110, 97, 108, 32, 49, 10] (by decide)) (Nat.le_refl _) ?_; intro v1 w1 ho0 hg1 _; have ho1 : w1.ownsRow w.heap.size 5 1 v1 18 (([116, 117, 111, 103, 117, 97, 110, 32, 106, 111, 117, 114, 110, 97, 108, 32, 49, 10] : List UInt8).map bv) := ho0; have hb1 := str_below hg1; clear tok1 ho0) | (at_builtin; refine wpList_append_own_none rfl (.tmp 45) (.tmp 46) 31 rfl w.heap.size 5 i5 1 Ybaf.underlying31 h5a _ 18 (([116, 117, 111, 103, 117, 97, 110, 32, 106, 111, 117, 114, 110, 97, 108, 32, 49, 10] : List UInt8).map bv) rfl ho1 rfl ?_))
        go_meet
        case rel => exact buf_grown (l := [116, 117, 111, 103, 117, 97, 110, 32, 106, 111, 117, 114, 110, 97, 108, 32, 49, 10]) (Below.refl _ _) (World.ownsRow_nil _ _ _ _) ho1 (by decide) hg1
      | some x =>
        go_wp2_with (first | (at_builtin; have _t := tok1; refine Lib.wpList_append_own_string _ rfl (.tmp 43) (.const (.string ⟨#[116, 117, 111, 103, 117, 97, 110, 32, 106, 111, 117, 114, 110, 97, 108, 32, 49, 10]⟩)) 31 9 rfl w.heap.size 5 i5 Ybaf.underlying31 Ybaf.underlying9 h5a h5b h5c h5d _ 0 [] rfl (World.ownsRow_nil _ _ _ _) ⟨#[116, 117, 111, 103, 117, 97, 110, 32, 106, 111, 117, 114, 110, 97, 108, 32, 49, 10]⟩ rfl (le18 #[116, 117, 111, 103, 117, 97, 110, 32, 106, 111, 117, 114, 110, 97, 108, 32, 49, 10] (by decide)) (le47 #[116, 117, 111, 103, 117, 97, 110, 32, 106, 111, 117, 114, 110, 97, 108, 32, 49, 10] (by decide)) (Nat.le_refl _) ?_; intro v1 w1 ho0 hg1 _; have ho1 : w1.ownsRow w.heap.size 5 1 v1 18 (([116, 117, 111, 103, 117, 97, 110, 32, 106, 111, 117, 114, 110, 97, 108, 32, 49, 10] : List UInt8).map bv) := ho0; have hb1 := str_below hg1; clear tok1 ho0) | (at_builtin; refine wpList_append_own _ rfl (.tmp 45) (.tmp 46) 31 rfl w.heap.size 5 i5 (.int .u8 0) 1 1 Ybaf.underlying31 h5a h5b h5c h5d rfl (by decide) _ 18 (([116, 117, 111, 103, 117, 97, 110, 32, 106, 111, 117, 114, 110, 97, 108, 32, 49, 10] : List UInt8).map bv) rfl ho1 x n c (D.map bv) rfl (by rw [List.length_map, HD.out, Nat.mul_one]) (came_cells hD hb1) (bv_one D) (by unfold maxLen; omega) (by omega) (by have := hb1.size; omega) ?_; intro v2 w2 ho2 hg2 _))
        go_meet
        case rel => exact buf_grown (l := [116, 117, 111, 103, 117, 97, 110, 32, 106, 111, 117, 114, 110, 97, 108, 32, 49, 10] ++ D) hb1 ho1 (by rw [List.map_append]; exact ho2) (by rw [List.length_append, HD.out]; simp; omega) hg2
    · have t0 : (mode % 5 == 0) = false := by rw [hm]; rfl
      have t1 : (mode % 5 == 1) = false := by rw [hm]; rfl
      have t2 : (mode % 5 == 2) = false := by rw [hm]; rfl
      have t3 : (mode % 5 == 3) = true := by rw [hm]; rfl
      clear hm
      go_wp2_with (first | (at_builtin; refine Lib.wpList_append_own_string _ rfl (.tmp 50) (.tmp 54) 31 9 rfl w.heap.size 5 i5 Ybaf.underlying31 Ybaf.underlying9 h5a h5b h5c h5d _ 0 [] rfl (World.ownsRow_nil _ _ _ _) ((⟨#[116, 117, 111, 103, 117, 97, 110, 32, 106, 111, 117, 114, 110, 97, 108, 32, 50, 10]⟩ : ByteArray).extract 0 (k % 19).toNat) rfl (cut_max #[116, 117, 111, 103, 117, 97, 110, 32, 106, 111, 117, 114, 110, 97, 108, 32, 50, 10] (by decide) _) (cut_47 #[116, 117, 111, 103, 117, 97, 110, 32, 106, 111, 117, 114, 110, 97, 108, 32, 50, 10] (by decide) _) (Nat.le_refl _) ?_; intro v1 w1 ho0 hg1 _))
      go_meet
      case rel => exact buf_grown (l := ((⟨#[116, 117, 111, 103, 117, 97, 110, 32, 106, 111, 117, 114, 110, 97, 108, 32, 50, 10]⟩ : ByteArray).extract 0 (k % 19).toNat).data.toList) (Below.refl _ _) (World.ownsRow_nil _ _ _ _) ho0 (cut_len #[116, 117, 111, 103, 117, 97, 110, 32, 106, 111, 117, 114, 110, 97, 108, 32, 50, 10] (by decide) _) hg1
    · have t0 : (mode % 5 == 0) = false := by rw [hm]; rfl
      have t1 : (mode % 5 == 1) = false := by rw [hm]; rfl
      have t2 : (mode % 5 == 2) = false := by rw [hm]; rfl
      have t3 : (mode % 5 == 3) = false := by rw [hm]; rfl
      clear hm
      go_wp2_with (first | (at_builtin; refine Lib.wpList_append_own_string _ rfl (.tmp 23) (.tmp 27) 31 9 rfl w.heap.size 5 i5 Ybaf.underlying31 Ybaf.underlying9 h5a h5b h5c h5d _ 0 [] rfl (World.ownsRow_nil _ _ _ _) ((⟨#[116, 117, 111, 103, 117, 97, 110, 32, 106, 111, 117, 114, 110, 97, 108, 32, 49, 10]⟩ : ByteArray).extract 0 (k % 19).toNat) rfl (cut_max #[116, 117, 111, 103, 117, 97, 110, 32, 106, 111, 117, 114, 110, 97, 108, 32, 49, 10] (by decide) _) (cut_47 #[116, 117, 111, 103, 117, 97, 110, 32, 106, 111, 117, 114, 110, 97, 108, 32, 49, 10] (by decide) _) (Nat.le_refl _) ?_; intro v1 w1 ho0 hg1 _))
      go_meet
      case rel => exact buf_grown (l := ((⟨#[116, 117, 111, 103, 117, 97, 110, 32, 106, 111, 117, 114, 110, 97, 108, 32, 49, 10]⟩ : ByteArray).extract 0 (k % 19).toNat).data.toList) (Below.refl _ _) (World.ownsRow_nil _ _ _ _) ho0 (cut_len #[116, 117, 111, 103, 117, 97, 110, 32, 106, 111, 117, 114, 110, 97, 108, 32, 49, 10] (by decide) _) hg1
  case rest =>
    clear h5a h5b h5c h5d hD HD
    obtain ⟨⟨l, hl, hown⟩, hbel⟩ := hcut
    obtain ⟨p, HP⟩ : ∃ p, Hid (l.length = p) := ⟨_, rfl⟩
    obtain ⟨ao, cap, hv, hat⟩ := buf_shape hown
    subst hv
    have hlp := HP.out
    rw [hlp] at hl hown hat
    rw [hlp]
    clear hlp
    go_step
    go_step
    go_cut [11] from 17 (fun v wc => Buf w v wc)
    case first =>
      have hkeep : Buf w (.slice ao p cap) wc := ⟨⟨l, by rw [HP.out]; exact hl, by rw [HP.out]; exact hown⟩, hbel⟩
      cases tweak
      · go_wp2
        go_meet
        case rel => exact hkeep
      · by_cases hp0 : p = 0
        · subst hp0
          go_wp2
          go_meet
          case rel => exact hkeep
        · obtain ⟨g, rfl, hge⟩ := hat.1 (by omega)
          have hpp : decide ((0 : Int) < (p : Int)) = true := by simp; omega
          have hpd : decide (0 < p) = true := by simp; omega
          have hx0 : 0 ≤ pos % (p : Int) := Int.emod_nonneg _ (by omega)
          have hx1 : pos % (p : Int) < (p : Int) := Int.emod_lt_of_pos _ (by omega)
          obtain ⟨y, hc, hfz⟩ := buf_cell hown (j := (pos % (p : Int)).toNat) (by omega)
          have HS : Hid (∀ u, Buf w (.slice (some ⟨g, 0, none⟩) p cap) (wc.setCell ⟨g, (pos % (p : Int)).toNat, none⟩ (.int .u8 (bits BinOp.xor IntKind.u8 u 1)))) := fun u => buf_store hkeep.below hge hown HP.out hl _
          go_wp2
          go_meet
          case rel => exact HS.out _
    case rest =>
      clear hl hown hat hbel HP
      obtain ⟨⟨l, hl, hown⟩, hbel⟩ := hcut
      obtain ⟨p, HP⟩ : ∃ p, Hid (l.length = p) := ⟨_, rfl⟩
      obtain ⟨ao, cap, hv, hat⟩ := buf_shape hown
      subst hv
      have hlp := HP.out
      rw [hlp] at hl hown hat
      rw [hlp]
      clear hlp
      obtain ⟨T, HT⟩ : ∃ T, Hid (T = l.take 18) := ⟨_, rfl⟩
      have hTl : T.length = min p 18 := by rw [HT.out, List.length_take, HP.out]; omega
      have hT18 : T.length ≤ 18 := by omega
      have hTc : T.length ≤ cap := by omega
      have HTL : Hid (T.length = min p 18) := hTl
      have hao := own_ao hown
      have hsl := fun wx => slice_to (p := p) hao hTc wx
      clear hTl
      go_upto_if 75 with fail
      go_cut [12] from 17 (fun m wx => m = .int .i64 (T.length : Int) ∧ wx = wc)
      case first =>
        by_cases h18 : 18 < p
        · have HM : Hid (T.length = 18) := by have := HTL.out; show T.length = 18; omega
          go_wp2
          go_meet
          case rel => exact ⟨by rw [HM.out]; rfl, rfl⟩
        · have HM : Hid (T.length = p) := by have := HTL.out; show T.length = p; omega
          go_wp2
          go_meet
          case rel => exact ⟨by rw [HM.out], rfl⟩
      case rest =>
        obtain ⟨rfl, rfl⟩ := hcut
        have hw0 : 0 < wc.heap.size := by have := hbel.size; omega
        have hEc : wc.cell? ⟨0, 0, none⟩ = some (.iface 51 (.pointer (some q))) := by rw [hbel.cell (p := ⟨0, 0, none⟩) h0]; exact hE
        obtain ⟨ev, hev, hread⟩ := read_of hown hl HT.out hw0 hEc
        have hEr : (wc.alloc (reader (.slice ao p cap))).cell? ⟨0, 0, none⟩ = some (.iface 51 (.pointer (some q))) := by rw [World.cell?_of_block (w := wc) (Below.heap_alloc wc _ 0 hw0)]; exact hEc
        have hRw : wc.heap.size < (wc.alloc (reader (.slice ao p cap))).heap.size := by simp
        have haft := fun w4 => after_magic (w4 := w4) hown hbel HT.out
        have hne1 := fun w t x => run_neq_iface_nil (P := Ybaf.prog) w 25 iface25 t x
        have heq1 := fun w => run_eql_nil_nil_at (P := Ybaf.prog) w 25 iface25
        have HA : Hid (∀ w4, Magic (wc.alloc (reader (.slice ao p cap))) w4 wc.heap.size (.slice ao p cap) .nilIface → RowB w4 ao T ∧ Below w.heap.size w w4) := haft
        have HO : Hid (ao = none ∨ ∃ g, ao = some ⟨g, 0, none⟩) := hao
        clear haft hao hat
        by_cases t2 : (T == [116, 117, 111, 103, 117, 97, 110, 32, 106, 111, 117, 114, 110, 97, 108, 32, 50, 10]) = true
        · have hmg := magic_two _ _ q ev hev T hT18 _ hw0 hRw hEr hread t2
          have hmg' : Calls Ybaf.prog 9 #[.iface 32 (.pointer (some ⟨wc.heap.size, 0, none⟩)), .string ⟨#[106]⟩] (wc.alloc (.cells #[.slice ao p cap, .nilIface, .int .i64 0, .slice none 0 0, .slice none 0 0] 36)) fun e w' => e = .returned (.tuple #[.int .i64 2, .nilIface]) ∧ Magic (wc.alloc (reader (.slice ao p cap))) w' wc.heap.size (.slice ao p cap) .nilIface := hmg
          clear hmg hread hEr hEc hev hRw hE hown
          go_wp2_with (first | (go_at_call 9; refine hmg'.mono ?_; rintro e w4 ⟨rfl, hM⟩; obtain ⟨hrow, hb4⟩ := HA.out w4 hM; obtain ⟨g3, c3, g4, c4, hrd, x3, x4⟩ := hM.rd; obtain ⟨r0, r1, r2, r3, r4, _⟩ := rd_cells hrd; have hcv := conv_row hrow HO.out cap))
          go_ret
          exact ⟨rfl, hb4⟩
        · replace t2 : (T == [116, 117, 111, 103, 117, 97, 110, 32, 106, 111, 117, 114, 110, 97, 108, 32, 50, 10]) = false := by simpa using t2
          by_cases t1 : (T == [116, 117, 111, 103, 117, 97, 110, 32, 106, 111, 117, 114, 110, 97, 108, 32, 49, 10]) = true
          · have hmg := magic_one _ _ q ev hev T hT18 _ hw0 hRw hEr hread t2 t1
            have hmg' : Calls Ybaf.prog 9 #[.iface 32 (.pointer (some ⟨wc.heap.size, 0, none⟩)), .string ⟨#[106]⟩] (wc.alloc (.cells #[.slice ao p cap, .nilIface, .int .i64 0, .slice none 0 0, .slice none 0 0] 36)) fun e w' => e = .returned (.tuple #[.int .i64 1, .nilIface]) ∧ Magic (wc.alloc (reader (.slice ao p cap))) w' wc.heap.size (.slice ao p cap) .nilIface := hmg
            clear hmg hread hEr hEc hev hRw hE hown
            go_wp2_with (first | (go_at_call 9; refine hmg'.mono ?_; rintro e w4 ⟨rfl, hM⟩; obtain ⟨hrow, hb4⟩ := HA.out w4 hM; obtain ⟨g3, c3, g4, c4, hrd, x3, x4⟩ := hM.rd; obtain ⟨r0, r1, r2, r3, r4, _⟩ := rd_cells hrd; have hcv := conv_row hrow HO.out cap))
            go_ret
            exact ⟨rfl, hb4⟩
          · replace t1 : (T == [116, 117, 111, 103, 117, 97, 110, 32, 106, 111, 117, 114, 110, 97, 108, 32, 49, 10]) = false := by simpa using t1
            have tok1 : True := trivial
            cases e2 : pre #[116, 117, 111, 103, 117, 97, 110, 32, 106, 111, 117, 114, 110, 97, 108, 32, 50, 10].toList T with
            | true =>
              have p2 := hp_of #[116, 117, 111, 103, 117, 97, 110, 32, 106, 111, 117, 114, 110, 97, 108, 32, 50, 10] T true e2
              have ip2 := ip_of #[116, 117, 111, 103, 117, 97, 110, 32, 106, 111, 117, 114, 110, 97, 108, 32, 50, 10] (by decide) ao T cap true e2
              clear e2
              have hmg := magic_pre2 _ _ q ev hev T hT18 _ hw0 hRw hEr hread t2 t1 p2
              have hmg' : Calls Ybaf.prog 9 #[.iface 32 (.pointer (some ⟨wc.heap.size, 0, none⟩)), .string ⟨#[106]⟩] (wc.alloc (.cells #[.slice ao p cap, .nilIface, .int .i64 0, .slice none 0 0, .slice none 0 0] 36)) fun e w' => e = .returned (.tuple #[.int .i64 0, .nilIface]) ∧ Magic (wc.alloc (reader (.slice ao p cap))) w' wc.heap.size (.slice ao p cap) .nilIface := hmg
              clear hmg hread hEr hEc hev hRw hE hown
              go_wp2_with (first | (go_at_call 9; refine hmg'.mono ?_; rintro e w4 ⟨rfl, hM⟩; obtain ⟨hrow, hb4⟩ := HA.out w4 hM; obtain ⟨g3, c3, g4, c4, hrd, x3, x4⟩ := hM.rd; obtain ⟨r0, r1, r2, r3, r4, _⟩ := rd_cells hrd; have hcv := conv_row hrow HO.out cap) | (go_at_call 10; have _t := tok1; refine (ip2 _ hrow).mono ?_; rintro e w5 ⟨rfl, hrow5, hb5⟩; clear tok1))
              go_ret
              exact ⟨rfl, below_two hb4 hb5⟩
            | false =>
              have p2 := hp_of #[116, 117, 111, 103, 117, 97, 110, 32, 106, 111, 117, 114, 110, 97, 108, 32, 50, 10] T false e2
              have ip2 := ip_of #[116, 117, 111, 103, 117, 97, 110, 32, 106, 111, 117, 114, 110, 97, 108, 32, 50, 10] (by decide) ao T cap false e2
              clear e2
              cases e1 : pre #[116, 117, 111, 103, 117, 97, 110, 32, 106, 111, 117, 114, 110, 97, 108, 32, 49, 10].toList T with
              | true =>
                have p1 := hp_of #[116, 117, 111, 103, 117, 97, 110, 32, 106, 111, 117, 114, 110, 97, 108, 32, 49, 10] T true e1
                have ip1 := ip_of #[116, 117, 111, 103, 117, 97, 110, 32, 106, 111, 117, 114, 110, 97, 108, 32, 49, 10] (by decide) ao T cap true e1
                clear e1
                have hmg := magic_pre1 _ _ q ev hev T hT18 _ hw0 hRw hEr hread t2 t1 p2 p1
                have hmg' : Calls Ybaf.prog 9 #[.iface 32 (.pointer (some ⟨wc.heap.size, 0, none⟩)), .string ⟨#[106]⟩] (wc.alloc (.cells #[.slice ao p cap, .nilIface, .int .i64 0, .slice none 0 0, .slice none 0 0] 36)) fun e w' => e = .returned (.tuple #[.int .i64 0, .nilIface]) ∧ Magic (wc.alloc (reader (.slice ao p cap))) w' wc.heap.size (.slice ao p cap) .nilIface := hmg
                clear hmg hread hEr hEc hev hRw hE hown
                go_wp2_with (first | (go_at_call 9; refine hmg'.mono ?_; rintro e w4 ⟨rfl, hM⟩; obtain ⟨hrow, hb4⟩ := HA.out w4 hM; obtain ⟨g3, c3, g4, c4, hrd, x3, x4⟩ := hM.rd; obtain ⟨r0, r1, r2, r3, r4, _⟩ := rd_cells hrd; have hcv := conv_row hrow HO.out cap) | (go_at_call 10; have _t := tok1; refine (ip2 _ hrow).mono ?_; rintro e w5 ⟨rfl, hrow5, hb5⟩; clear tok1) | (go_at_call 10; refine (ip1 _ hrow5).mono ?_; rintro e w6 ⟨rfl, hrow6, hb6⟩))
                go_ret
                exact ⟨rfl, below_two (below_two hb4 hb5) hb6⟩
              | false =>
                have p1 := hp_of #[116, 117, 111, 103, 117, 97, 110, 32, 106, 111, 117, 114, 110, 97, 108, 32, 49, 10] T false e1
                have ip1 := ip_of #[116, 117, 111, 103, 117, 97, 110, 32, 106, 111, 117, 114, 110, 97, 108, 32, 49, 10] (by decide) ao T cap false e1
                clear e1
                have hmg := magic_no _ _ q ev hev T hT18 _ hw0 hRw hEr hread t2 t1 p2 p1
                have hmg' : Calls Ybaf.prog 9 #[.iface 32 (.pointer (some ⟨wc.heap.size, 0, none⟩)), .string ⟨#[106]⟩] (wc.alloc (.cells #[.slice ao p cap, .nilIface, .int .i64 0, .slice none 0 0, .slice none 0 0] 36)) fun e w' => (∃ x, e = .returned (.tuple #[.int .i64 0, .iface 51 x])) ∧ Magic (wc.alloc (reader (.slice ao p cap))) w' wc.heap.size (.slice ao p cap) .nilIface := hmg
                clear hmg hread hEr hEc hev hRw hE hown
                go_wp2_with (first | (go_at_call 9; refine hmg'.mono ?_; rintro e w4 ⟨⟨x, rfl⟩, hM⟩; obtain ⟨hrow, hb4⟩ := HA.out w4 hM; obtain ⟨g3, c3, g4, c4, hrd, x3, x4⟩ := hM.rd; obtain ⟨r0, r1, r2, r3, r4, _⟩ := rd_cells hrd; have hcv := conv_row hrow HO.out cap) | (go_at_call 10; have _t := tok1; refine (ip2 _ hrow).mono ?_; rintro e w5 ⟨rfl, hrow5, hb5⟩; clear tok1) | (go_at_call 10; refine (ip1 _ hrow5).mono ?_; rintro e w6 ⟨rfl, hrow6, hb6⟩))
                go_ret
                exact ⟨rfl, below_two (below_two hb4 hb5) hb6⟩

set_option maxRecDepth 4000 in
/-- Every input. -/
theorem version_any (mode k pos : Int) (m0 : 0 ≤ mode) (m1 : mode ≤ 255) (k0 : 0 ≤ k) (k1 : k ≤ 255) (q0 : 0 ≤ pos) (q1 : pos ≤ 65535) (tweak : Bool) (a : Option Addr) (D : List UInt8) (n : Nat) (HD : Hid (D.length = n)) (c : Nat) (w : World) (hD : Came w a D c) (q : Addr) (h0 : 0 < w.heap.size) (hE : w.cell? ⟨0, 0, none⟩ = some (.iface 51 (.pointer (some q)))) :
    Calls Ybaf.prog 5 #[.int .u8 mode, .int .u8 k, .bool tweak, .int .u16 pos, .slice a n c] w fun e w' => e = .returned (.bool true) ∧ Below w.heap.size w w' := by
  by_cases hn : 1024 < n
  · go_enter Ybaf.func5, Ybaf.ntmps5
    go_wp2
    go_ret
    exact ⟨rfl, Below.refl _ _⟩
  · exact version_small mode k pos m0 m1 k0 k1 q0 q1 tweak a D n HD c w (by omega) hD q h0 hE
end Go.Proofs.YbulkekcFmt
