/-
  THE WALK of LawS0256BPlain.
-/
import Derived.Test.YbulkegwPlainParts
import Derived.RegionTactic
namespace Go.Proofs.Ybulkegw
open Go.RowKit

theorem three (c : Int) : (c == 32) = true ∨ ((c == 32) = false ∧ (c == 9) = true) ∨ ((c == 32) = false ∧ (c == 9) = false) := by
  cases h : (c == 32) <;> cases k : (c == 9) <;> simp

set_option maxHeartbeats 1000000 in
theorem plain_any (s : ByteArray) (w : World) :
    Calls Yba.prog 4 #[.string s] w fun e w' => e = .returned (.bool true) ∧ Below w.heap.size w w' := by
  by_cases hbig : 4096 < s.size
  · go_enter Yba.func4, Yba.ntmps4
    go_wp2
    go_ret
    exact ⟨rfl, Below.refl _ _⟩
  have hs : s.size ≤ 4096 := by omega
  clear hbig
  obtain ⟨i5, h5a, h5b, h5c, h5d⟩ := info_parts info5
  obtain ⟨i9, h9a, h9b, h9c, h9d⟩ := info_parts info9
  go_enter Yba.func4, Yba.ntmps4
  go_wp2_with (first | (at_make; refine wpList_make_full _ rfl (.tmp 18) (.tmp 18) 23 rfl w.heap.size 5 i5 (.int .u8 0) 1 Yba.underlying23 h5a h5b h5c _ _ _ _ s.size rfl rfl rfl rfl (by rw [h5d]; omega) (by unfold maxLen; omega) (Nat.le_refl _) ?_))
  intro w1 hown hgrow
  have hF := fill_start hown ((Below.refl _ _).grown hgrow (Nat.le_refl _) (fun k hk => by cases hk))
  clear hown hgrow
  go_wp2
  go_loopw [4] (fun i wr => ∃ k : Nat, k ≤ s.size ∧ i = .int .i64 k ∧ Fill w s k wr) (fun i _ => s.size - (intOf i).toNat)
  case atStart => exact ⟨0, Nat.zero_le _, rfl, hF⟩
  case round =>
    clear hF
    obtain ⟨k, hk, rfl, hfill⟩ := hrel
    by_cases hlt : k < s.size
    · obtain ⟨⟨u, hcell⟩, hfz⟩ := fill_cell hfill hlt
      by_cases hc : s[k] = 34
      · have HC : Hid (s[k] = 34) := hc
        have h3 : ((s[k].toNat : Int) == 34) = true := by rw [hc]; rfl
        clear hc
        go_wp2
        have R := fill_step hfill hlt (n := 120) (by rw [HC.out]; rfl)
        go_roundw
        case rel => exact ⟨k + 1, by omega, by go_num, R⟩
        case measure => simp [intOf]; omega
      · have HC : Hid (s[k] ≠ 34) := hc
        have h3 : ((s[k].toNat : Int) == 34) = false := not34 hc
        clear hc
        go_wp2
        have R := fill_step hfill hlt (n := (s[k].toNat : Int)) (by unfold mapq; rw [if_neg HC.out])
        go_roundw
        case rel => exact ⟨k + 1, by omega, by go_num, R⟩
        case measure => simp [intOf]; omega
    · obtain rfl : k = s.size := by omega
      have hcv := fill_conv hfill
      have hts := quoteless_size s
      have hno := plain_law _ (quoteless_no s)
      have hbel := hfill.below
      clear hfill hlt hk
      obtain ⟨wo, hwo⟩ : ∃ wo, wo = wr := ⟨_, rfl⟩
      subst hwo
      obtain ⟨t, ht⟩ : ∃ t, t = quoteless s := ⟨_, rfl⟩
      rw [← ht] at hcv hno hts
      clear ht
      have HL : Hid (final (runSt t.data.toList) = wfinal t.data.toList (wrun t.data.toList t.data.toList.length) ∧ (runSt t.data.toList).quo = false) := hno
      have htb : t.size ≤ 4096 := by omega
      clear hno
      have HT : Hid (t.size = s.size) := hts
      clear hts
      go_wp2
      go_loopw [7, 8, 9] (fun v st i wr => ∃ (k : Nat) (R : List (List UInt8) × Option Nat), k ≤ t.size ∧ i = .int .i64 k ∧ st = .int .i64 (stOf R.2) ∧ Want w t.data.toList k v R wr) (fun _ _ i _ => t.size - (intOf i).toNat)
      case atStart => exact ⟨0, ([], none), Nat.zero_le _, rfl, rfl, want_start _ hbel⟩
      case round =>
        clear hcv hbel
        obtain ⟨k, R, hk, rfl, rfl, hwant⟩ := hrel
        obtain ⟨L, R2⟩ := R
        have hbs := hwant.below.size
        have hl2 := hwant.len
        have hw1 := hwant.own
        simp only at hl2 hw1 ⊢
        by_cases hlt : k < t.size
        · have hbi := blank_int t[k]
          rcases three (t[k].toNat : Int) with h4 | ⟨h4, h5⟩ | ⟨h4, h5⟩
          · have HB : Hid (blank t[k] = true) := by rw [hbi, h4]; rfl
            clear hbi
            cases R2 with
            | none =>
              simp only [stOf]
              have R := want_same hwant hlt (R' := (L, none)) (by simp [wstep, HB.out]) rfl (fun a h => by cases h)
              clear hw1
              go_wp2
              go_roundw
              case rel => exact ⟨k + 1, (L, none), by omega, by go_num, rfl, R⟩
              case measure => simp [intOf]; omega
            | some a =>
              have ha := hwant.lt a rfl
              simp only [stOf]
              go_wp2_with (first | (at_builtin; refine wpList_append_own _ rfl (.tmp 54) (.tmp 59) 22 rfl w.heap.size 9 i9 (.string ⟨#[]⟩) 1 16 Yba.underlying22 h9a h9b h9c h9d rfl (by decide) _ _ _ rfl (hw1.alloc _) ⟨wr.heap.size, 0, none⟩ 1 1 [.string (t.extract a k)] rfl rfl (cell_one_new _ _ _) (by intro u hu; simp at hu; subst hu; rfl) (by unfold maxLen; omega) (by omega) (by simp; omega) ?_))
              intro v1 w2 hown' hgrow _
              have R := want_push hwant hlt HB.out hown' hgrow
              clear hown' hgrow hw1
              go_wp2
              go_roundw
              case rel => exact ⟨k + 1, _, by omega, by go_num, rfl, R⟩
              case measure => simp [intOf]; omega
          · have HB : Hid (blank t[k] = true) := by rw [hbi, h4, h5]; rfl
            clear hbi
            cases R2 with
            | none =>
              simp only [stOf]
              have R := want_same hwant hlt (R' := (L, none)) (by simp [wstep, HB.out]) rfl (fun a h => by cases h)
              clear hw1
              go_wp2
              go_roundw
              case rel => exact ⟨k + 1, (L, none), by omega, by go_num, rfl, R⟩
              case measure => simp [intOf]; omega
            | some a =>
              have ha := hwant.lt a rfl
              simp only [stOf]
              go_wp2_with (first | (at_builtin; refine wpList_append_own _ rfl (.tmp 54) (.tmp 59) 22 rfl w.heap.size 9 i9 (.string ⟨#[]⟩) 1 16 Yba.underlying22 h9a h9b h9c h9d rfl (by decide) _ _ _ rfl (hw1.alloc _) ⟨wr.heap.size, 0, none⟩ 1 1 [.string (t.extract a k)] rfl rfl (cell_one_new _ _ _) (by intro u hu; simp at hu; subst hu; rfl) (by unfold maxLen; omega) (by omega) (by simp; omega) ?_))
              intro v1 w2 hown' hgrow _
              have R := want_push hwant hlt HB.out hown' hgrow
              clear hown' hgrow hw1
              go_wp2
              go_roundw
              case rel => exact ⟨k + 1, _, by omega, by go_num, rfl, R⟩
              case measure => simp [intOf]; omega
          · have HB : Hid (blank t[k] = false) := by rw [hbi, h4, h5]; rfl
            clear hbi
            cases R2 with
            | none =>
              simp only [stOf]
              have R := want_same hwant hlt (R' := (L, some k)) (by simp [wstep, HB.out]) rfl (fun a h => by cases h; omega)
              clear hw1
              go_wp2
              go_roundw
              case rel => exact ⟨k + 1, (L, some k), by omega, by go_num, rfl, R⟩
              case measure => simp [intOf]; omega
            | some a =>
              have ha := hwant.lt a rfl
              simp only [stOf]
              have R := want_same hwant hlt (R' := (L, some a)) (by simp [wstep, HB.out]) rfl (fun a h => by cases h; omega)
              clear hw1
              go_wp2
              go_roundw
              case rel => exact ⟨k + 1, (L, some a), by omega, by go_num, rfl, R⟩
              case measure => simp [intOf]; omega
        · obtain rfl : k = t.size := by omega
          have hrn := hwant.run
          have hbw := hwant.below
          have ht' : t.data.toList.length = t.size := by simp
          have hfin := HL.out.1
          rw [ht', hrn] at hfin
          clear hrn ht'
          cases R2 with
          | none =>
            simp only [stOf]
            obtain ⟨LL, hLL⟩ : ∃ LL, LL = L := ⟨_, rfl⟩
            subst hLL
            have HLL : Hid (final (runSt t.data.toList) = LL) := hfin
            clear hfin hwant
            have hw2 := hw1
            have hbw2 := hbw
            have hLb : LL.length ≤ 5000 := by omega
            clear hw1 hbw
            obtain ⟨ao1, cap1, hv1, _⟩ := own_shape hw2
            subst hv1
            go_wp2_with (first | (go_at_call 8; refine (split_as t _ LL (by omega) HL.out.2 HLL.out).mono ?_; rintro e w3 ⟨got, rfl, hgot, hbel3⟩; obtain ⟨ao2, cap2, hv2, _⟩ := own_shape hgot; subst hv2))
            have hbo : Both w LL _ _ _ _ w3 := ⟨own_below hw2 hbel3 (Nat.le_refl _), hgot, hbw2.trans (hbel3.mono hbw2.size)⟩
            clear hw2 hgot hbw2 hbel3
            go_loopw [13] (fun i wq => ∃ k : Nat, k ≤ LL.length ∧ i = .int .i64 k ∧ Both w LL _ _ (.slice ao1 LL.length cap1) (.slice ao2 LL.length cap2) wq) (fun i _ => LL.length - (intOf i).toNat)
            case atStart => exact ⟨0, Nat.zero_le _, rfl, hbo⟩
            case round =>
              obtain ⟨k, hk, rfl, hb2⟩ := hrel
              clear hbo
              by_cases hlt : k < LL.length
              · obtain ⟨g1, rfl, hc1⟩ := row_cell hb2.one hlt
                obtain ⟨g2, rfl, hc2⟩ := row_cell hb2.two hlt
                go_wp2
                go_region
                all_goals
                  go_wp2
                  go_roundw
                  case rel => exact ⟨k + 1, by omega, by go_num, both_drew hb2⟩
                  case measure => simp [intOf]; omega
              · go_wp2
                go_ret
                exact ⟨rfl, hb2.below⟩
          | some a =>
            have ha := hwant.lt a rfl
            simp only [stOf]
            obtain ⟨LL, hLL⟩ : ∃ LL, LL = L ++ [t.data.toList.drop a] := ⟨_, rfl⟩
            have HLL : Hid (final (runSt t.data.toList) = LL) := by rw [hLL]; exact hfin
            have HLX : Hid (LL = L ++ [t.data.toList.drop a]) := hLL
            clear hfin hLL hwant
            go_wp2_with (first | (at_builtin; refine wpList_append_own _ rfl (.tmp 66) (.tmp 70) 22 rfl w.heap.size 9 i9 (.string ⟨#[]⟩) 1 16 Yba.underlying22 h9a h9b h9c h9d rfl (by decide) _ _ _ rfl (hw1.alloc _) ⟨wr.heap.size, 0, none⟩ 1 1 [.string (t.extract a t.size)] rfl rfl (cell_one_new _ _ _) (by intro u hu; simp at hu; subst hu; rfl) (by unfold maxLen; omega) (by omega) (by simp; omega) ?_))
            intro v1 w2 hown' hgrow _
            have hbw2 : Below w.heap.size w w2 := (hbw.alloc hbs _).grown hgrow (by simp; omega) (fun g hgb => (hw1.lt g hgb).1)
            have hw2 : w2.ownsRow w.heap.size 9 1 v1 LL.length (LL.map sv) := by
              rw [extract_sv, List.take_of_length_le (by simp)] at hown'
              rw [HLX.out]
              simpa using hown'
            have hLb : LL.length ≤ 5000 := by rw [HLX.out]; simp; omega
            clear hown' hgrow hw1 hbw
            obtain ⟨ao1, cap1, hv1, _⟩ := own_shape hw2
            subst hv1
            go_wp2_with (first | (go_at_call 8; refine (split_as t _ LL (by omega) HL.out.2 HLL.out).mono ?_; rintro e w3 ⟨got, rfl, hgot, hbel3⟩; obtain ⟨ao2, cap2, hv2, _⟩ := own_shape hgot; subst hv2))
            have hbo : Both w LL _ _ _ _ w3 := ⟨own_below hw2 hbel3 (Nat.le_refl _), hgot, hbw2.trans (hbel3.mono hbw2.size)⟩
            clear hw2 hgot hbw2 hbel3
            go_loopw [13] (fun i wq => ∃ k : Nat, k ≤ LL.length ∧ i = .int .i64 k ∧ Both w LL _ _ (.slice ao1 LL.length cap1) (.slice ao2 LL.length cap2) wq) (fun i _ => LL.length - (intOf i).toNat)
            case atStart => exact ⟨0, Nat.zero_le _, rfl, hbo⟩
            case round =>
              obtain ⟨k, hk, rfl, hb2⟩ := hrel
              clear hbo
              by_cases hlt : k < LL.length
              · obtain ⟨g1, rfl, hc1⟩ := row_cell hb2.one hlt
                obtain ⟨g2, rfl, hc2⟩ := row_cell hb2.two hlt
                go_wp2
                go_region
                all_goals
                  go_wp2
                  go_roundw
                  case rel => exact ⟨k + 1, by omega, by go_num, both_drew hb2⟩
                  case measure => simp [intOf]; omega
              · go_wp2
                go_ret
                exact ⟨rfl, hb2.below⟩
end Go.Proofs.Ybulkegw
