import Derived.Test.YbulkegwParts
namespace Go.Proofs.Ybulkegw
open Go.RowKit

theorem blank_any (c : Int) (w : World) :
    Calls Yba.prog 10 #[.int .i32 c] w fun e w' => e = .returned (.bool (c == 32 || c == 9)) ∧ w = w' := by
  by_cases h : c = 32
  · subst h
    go_enter Yba.func10, Yba.ntmps10
    go_wp2
    go_ret
    exact ⟨rfl, rfl⟩
  · have h1 : (c == 32) = false := by simpa using h
    go_enter Yba.func10, Yba.ntmps10
    go_wp2
    go_ret
    exact ⟨by rw [h1]; rfl, rfl⟩

theorem nat_int_beq (a : Nat) (n : Nat) : ((a : Int) == (n : Int)) = (a == n) := by
  rw [Bool.eq_iff_iff]; simp only [beq_iff_eq]; omega
theorem not34 {c : UInt8} (h : c ≠ 34) : ((c.toNat : Int) == 34) = false := by
  rw [show ((34 : Int)) = ((34 : Nat) : Int) from rfl, nat_int_beq]
  simp only [beq_eq_false_iff_ne, ne_eq]
  exact fun e => h (UInt8.toNat_inj.1 e)
theorem not92 {c : UInt8} (h : c ≠ 92) : ((c.toNat : Int) == 92) = false := by
  rw [show ((92 : Int)) = ((92 : Nat) : Int) from rfl, nat_int_beq]
  simp only [beq_eq_false_iff_ne, ne_eq]
  exact fun e => h (UInt8.toNat_inj.1 e)
theorem beq_int (c d : UInt8) : (c == d) = ((c.toNat : Int) == (d.toNat : Int)) := by
  rw [nat_int_beq, Bool.eq_iff_iff]
  simp only [beq_iff_eq]
  exact UInt8.toNat_inj.symm
theorem blank_int (c : UInt8) : blank c = (((c.toNat : Int) == 32) || ((c.toNat : Int) == 9)) := by
  unfold blank
  rw [beq_int c 32, beq_int c 9]
  rfl

theorem wrap_byte (c : UInt8) : wrap32 (c.toNat : Int) = (c.toNat : Int) := by
  have := c.toNat_lt
  unfold wrap32
  omega
set_option maxHeartbeats 1000000 in
theorem split_any (s : ByteArray) (w : World) (hs : s.size ≤ 1000000) (hq : (runSt s.data.toList).quo = false) :
    Calls Yba.prog 8 #[.string s] w fun e w' => ∃ v, e = .returned (.tuple #[v, .nilIface]) ∧
      w'.ownsRow w.heap.size 9 1 v (final (runSt s.data.toList)).length ((final (runSt s.data.toList)).map sv) ∧ Below w.heap.size w w' := by
  have HQ : Hid ((runSt s.data.toList).quo = false) := hq
  clear hq
  obtain ⟨i5, h5a, h5b, h5c, h5d⟩ := info_parts info5
  obtain ⟨i9, h9a, h9b, h9c, h9d⟩ := info_parts info9
  go_enter Yba.func8, Yba.ntmps8
  go_wp2
  go_loopw [4, 5, 6, 7, 8, 9] (fun v u iw q es i wr => ∃ (k : Nat) (S : St), k ≤ s.size ∧ i = .int .i64 k ∧ iw = .bool S.inW ∧ q = .bool S.quo ∧ es = .bool S.esc ∧ Inv w s k v u S wr)
    (fun _ _ _ _ _ i _ => s.size - (intOf i).toNat)
  case atStart => exact ⟨0, st0, Nat.zero_le _, rfl, rfl, rfl, rfl, inv_start w s⟩
  case round =>
    obtain ⟨k, S, hk, rfl, rfl, rfl, rfl, hinv⟩ := hrel
    obtain ⟨W, wd, iw, q, es⟩ := S
    have hbs := hinv.below.size
    have hl1 := hinv.blen
    have hl2 := hinv.wlen
    have hb1 := hinv.byt
    have hw1 := hinv.own
    simp only at hl1 hl2 hb1 hw1 ⊢
    have hcv : (convert 23 9 u5).run Yba.prog wr = .ok (.string ⟨wd.toArray⟩) wr := conv_own hb1
    obtain ⟨u0, hsl, hu0, hub⟩ := cut_own hb1
    have HU : Hid (u0.ownBlock = u5.ownBlock) := hub
    clear hub
    by_cases hlt : k < s.size
    · have hwc : wrap32 (s[k].toNat : Int) = (s[k].toNat : Int) := wrap_byte _
      cases es
      · cases q
        · by_cases hc34 : s[k] = 34
          · have HC : Hid (s[k] = 34) := hc34
            have h3 : ((s[k].toNat : Int) == 34) = true := by rw [hc34]; rfl
            clear hc34
            go_wp2_with (first | fail)
            have R := inv_same hinv hlt (S' := ⟨W, wd, true, true, false⟩) (by simp [step, HC.out]) rfl rfl
            go_roundw
            case rel => exact ⟨k + 1, _, by omega, by go_num, rfl, rfl, rfl, R⟩
            case measure => simp [intOf]; omega
          · by_cases hbl : blank s[k] = true
            · have HC : Hid (s[k] ≠ 34 ∧ blank s[k] = true) := ⟨hc34, hbl⟩
              have h3 : ((s[k].toNat : Int) == 34) = false := not34 hc34
              have h4 : (((s[k].toNat : Int) == 32) || ((s[k].toNat : Int) == 9)) = true := by rw [← blank_int]; exact hbl
              clear hc34 hbl
              cases iw
              · go_wp2_with (first | (go_at_call 10; refine (blank_any _ _).mono ?_; rintro e w' ⟨rfl, rfl⟩))
                have R := inv_same hinv hlt (S' := ⟨W, wd, false, false, false⟩) (by simp [step, HC.out]) rfl rfl
                go_roundw
                case rel => exact ⟨k + 1, _, by omega, by go_num, rfl, rfl, rfl, R⟩
                case measure => simp [intOf]; omega
              · go_wp2_with (first | (go_at_call 10; refine (blank_any _ _).mono ?_; rintro e w' ⟨rfl, rfl⟩) | (at_builtin; refine wpList_append_own _ rfl (.tmp 63) (.tmp 66) 22 rfl w.heap.size 9 i9 (.string ⟨#[]⟩) 1 16 Yba.underlying22 h9a h9b h9c h9d rfl (by decide) _ _ _ rfl (hw1.alloc _) ⟨wr.heap.size, 0, none⟩ 1 1 [.string ⟨wd.toArray⟩] rfl rfl (cell_one_new _ _ _) (by intro u hu; simp at hu; subst hu; rfl) (by unfold maxLen; omega) (by omega) (by simp; omega) ?_))
                intro v1 w1 hown' hgrow _
                have R := inv_flush hinv hlt (S' := ⟨W ++ [wd], [], false, false, false⟩) (by simp [step, HC.out]) rfl rfl hown' hgrow hu0 HU.out
                clear hown' hgrow hb1 hw1
                go_wp2
                go_roundw
                case rel => exact ⟨k + 1, _, by omega, by go_num, rfl, rfl, rfl, R⟩
                case measure => simp [intOf]; omega
            · have HC : Hid (s[k] ≠ 34 ∧ blank s[k] = false) := ⟨hc34, by simpa using hbl⟩
              have h3 : ((s[k].toNat : Int) == 34) = false := not34 hc34
              have h4 : (((s[k].toNat : Int) == 32) || ((s[k].toNat : Int) == 9)) = false := by rw [← blank_int]; simpa using hbl
              clear hc34 hbl
              go_wp2_with (first | (go_at_call 10; refine (blank_any _ _).mono ?_; rintro e w' ⟨rfl, rfl⟩) | (at_builtin; refine wpList_append_own _ rfl (.tmp 20) (.tmp 22) 23 rfl w.heap.size 5 i5 (.int .u8 0) 1 1 Yba.underlying23 h5a h5b h5c h5d rfl (by decide) _ _ _ rfl (hb1.alloc _) ⟨wr.heap.size, 0, none⟩ 1 1 [.int .u8 (s[k].toNat : Int)] rfl rfl (cell_one_new _ _ _) (by intro u hu; simp at hu; subst hu; rfl) (by unfold maxLen; omega) (by omega) (by simp; omega) ?_))
              intro u1 w1 hown' hgrow _
              have R := inv_push hinv hlt (S' := ⟨W, wd ++ [s[k]], true, false, false⟩) (by simp [step, HC.out]) rfl rfl hown' hgrow
              clear hown' hgrow hb1 hw1
              go_wp2
              go_roundw
              case rel => exact ⟨k + 1, _, by omega, by go_num, rfl, rfl, rfl, R⟩
              case measure => simp [intOf]; omega
        · by_cases hc92 : s[k] = 92
          · have HC : Hid (s[k] = 92) := hc92
            have h3 : ((s[k].toNat : Int) == 92) = true := by rw [hc92]; rfl
            clear hc92
            go_wp2_with (first | fail)
            have R := inv_same hinv hlt (S' := ⟨W, wd, iw, true, true⟩) (by simp [step, HC.out]) rfl rfl
            go_roundw
            case rel => exact ⟨k + 1, _, by omega, by go_num, rfl, rfl, rfl, R⟩
            case measure => simp [intOf]; omega
          · by_cases hc34 : s[k] = 34
            · have HC : Hid (s[k] = 34) := hc34
              have h3 : ((s[k].toNat : Int) == 34) = true := by rw [hc34]; rfl
              have h4 : ((s[k].toNat : Int) == 92) = false := not92 hc92
              clear hc92 hc34
              go_wp2_with (first | (at_builtin; refine wpList_append_own _ rfl (.tmp 42) (.tmp 45) 22 rfl w.heap.size 9 i9 (.string ⟨#[]⟩) 1 16 Yba.underlying22 h9a h9b h9c h9d rfl (by decide) _ _ _ rfl (hw1.alloc _) ⟨wr.heap.size, 0, none⟩ 1 1 [.string ⟨wd.toArray⟩] rfl rfl (cell_one_new _ _ _) (by intro u hu; simp at hu; subst hu; rfl) (by unfold maxLen; omega) (by omega) (by simp; omega) ?_))
              intro v1 w1 hown' hgrow _
              have R := inv_flush hinv hlt (S' := ⟨W ++ [wd], [], false, false, false⟩) (by simp [step, HC.out]) rfl rfl hown' hgrow hu0 HU.out
              clear hown' hgrow hb1 hw1
              go_wp2
              go_roundw
              case rel => exact ⟨k + 1, _, by omega, by go_num, rfl, rfl, rfl, R⟩
              case measure => simp [intOf]; omega
            · have HC : Hid (s[k] ≠ 34 ∧ s[k] ≠ 92) := ⟨hc34, hc92⟩
              have h3 : ((s[k].toNat : Int) == 34) = false := not34 hc34
              have h4 : ((s[k].toNat : Int) == 92) = false := not92 hc92
              clear hc92 hc34
              go_wp2_with (first | (at_builtin; refine wpList_append_own _ rfl (.tmp 51) (.tmp 53) 23 rfl w.heap.size 5 i5 (.int .u8 0) 1 1 Yba.underlying23 h5a h5b h5c h5d rfl (by decide) _ _ _ rfl (hb1.alloc _) ⟨wr.heap.size, 0, none⟩ 1 1 [.int .u8 (s[k].toNat : Int)] rfl rfl (cell_one_new _ _ _) (by intro u hu; simp at hu; subst hu; rfl) (by unfold maxLen; omega) (by omega) (by simp; omega) ?_))
              intro u1 w1 hown' hgrow _
              have R := inv_push hinv hlt (S' := ⟨W, wd ++ [s[k]], iw, true, false⟩) (by simp [step, HC.out]) rfl rfl hown' hgrow
              clear hown' hgrow hb1 hw1
              go_wp2
              go_roundw
              case rel => exact ⟨k + 1, _, by omega, by go_num, rfl, rfl, rfl, R⟩
              case measure => simp [intOf]; omega
      · go_wp2_with (first | (at_builtin; refine wpList_append_own _ rfl (.tmp 26) (.tmp 28) 23 rfl w.heap.size 5 i5 (.int .u8 0) 1 1 Yba.underlying23 h5a h5b h5c h5d rfl (by decide) _ _ _ rfl (hb1.alloc _) ⟨wr.heap.size, 0, none⟩ 1 1 [.int .u8 (s[k].toNat : Int)] rfl rfl (cell_one_new _ _ _) (by intro u hu; simp at hu; subst hu; rfl) (by unfold maxLen; omega) (by omega) (by simp; omega) ?_))
        intro u1 w1 hown' hgrow _
        have R := inv_push hinv hlt (S' := ⟨W, wd ++ [s[k]], iw, q, false⟩) (by simp [step]) rfl rfl hown' hgrow
        clear hown' hgrow hb1 hw1
        go_wp2
        go_roundw
        case rel => exact ⟨k + 1, _, by omega, by go_num, rfl, rfl, rfl, R⟩
        case measure => simp [intOf]; omega
    · have hrun : runSt s.data.toList = ⟨W, wd, iw, q, es⟩ := by
        rw [← hinv.run, List.take_of_length_le (by simp; omega)]
      have hq : q = false := by have := HQ.out; rw [hrun] at this; exact this
      subst hq
      have HR : Hid (runSt s.data.toList = ⟨W, wd, iw, false, es⟩) := hrun
      clear hrun
      cases iw
      · go_wp2
        go_ret2
        exact ⟨_, rfl, by rw [HR.out]; exact hw1, hinv.below⟩
      · go_wp2_with (first | (at_builtin; refine wpList_append_own _ rfl (.tmp 73) (.tmp 76) 22 rfl w.heap.size 9 i9 (.string ⟨#[]⟩) 1 16 Yba.underlying22 h9a h9b h9c h9d rfl (by decide) _ _ _ rfl (hw1.alloc _) ⟨wr.heap.size, 0, none⟩ 1 1 [.string ⟨wd.toArray⟩] rfl rfl (cell_one_new _ _ _) (by intro u hu; simp at hu; subst hu; rfl) (by unfold maxLen; omega) (by omega) (by simp; omega) ?_))
        intro v1 w1 hown' hgrow _
        have hbel : Below w.heap.size w w1 := (hinv.below.alloc hbs _).grown hgrow (by simp; omega) (fun g hg => (hw1.lt g hg).1)
        clear hgrow hb1 hw1 hcv hsl
        go_wp2
        go_ret2
        refine ⟨_, rfl, ?_, hbel⟩
        rw [HR.out]
        simpa [final, sv] using hown'
end Go.Proofs.Ybulkegw
