/-
  THE WALK of zzs0256bline.
-/
import Derived.Test.YbulkegwQuote
namespace Go.Proofs.Ybulkegw
open Go.RowKit

/-- A slice of strings that came in. -/
structure Words (w : World) (a : Option Addr) (len : Nat) (W : Nat → ByteArray) : Prop where
  lie : 0 < len → ∃ b off, a = some ⟨b, off, none⟩ ∧ b < w.heap.size ∧ ∀ i, i < len → w.cell? ⟨b, off + i, none⟩ = some (.string (W i))

theorem words_cell {w wr : World} {a : Option Addr} {len k : Nat} {W : Nat → ByteArray} (h : Words w a len W) (hb : Below w.heap.size w wr) (hk : k < len) :
    ∃ b off, a = some ⟨b, off, none⟩ ∧ wr.cell? ⟨b, off + k, none⟩ = some (.string (W k)) := by
  obtain ⟨b, off, rfl, hlt, hc⟩ := h.lie (by omega)
  exact ⟨b, off, rfl, by rw [hb.cell (p := ⟨b, off + k, none⟩) hlt]; exact hc k hk⟩

def WL (W : Nat → ByteArray) (i : Nat) : List UInt8 := (W i).data.toList
theorem WL_len (W : Nat → ByteArray) (i : Nat) : (WL W i).length = (W i).size := by simp [WL]

theorem sepS_list (n : Int) : (sepS n).data.toList = sepL n.toNat := by simp [sepS]
theorem sepS_size (n : Int) : (sepS n).size ≤ 3 := by
  have := sepL_len n.toNat
  show (sepL n.toNat).toArray.size ≤ 3
  simpa using this

/-- What the second loop holds at a round's head. -/
structure Lin (w : World) (n : Int) (W : Nat → ByteArray) (k : Nat) (v : Value) (wr : World) : Prop where
  own : ownsB wr w.heap.size v (lineK (sepL n.toNat) (WL W) k)
  below : Below w.heap.size w wr

theorem lin_next {w wr w2 : World} {n : Int} {W : Nat → ByteArray} {j : Nat} {v v2 : Value} {m : List UInt8} (h : Lin w n W j v wr) (hm : m = lineK (sepL n.toNat) (WL W) j ++ (if 0 < j then sepL n.toNat else [])) (ho : ownsB w2 w.heap.size v2 (m ++ quoteL (W j).data.toList)) (hb : Below w.heap.size wr w2) : Lin w n W (j + 1) v2 w2 :=
  ⟨by rw [hm] at ho; exact ho, h.below.trans hb⟩

set_option maxHeartbeats 1000000 in
theorem line_any (a : Option Addr) (len cap : Nat) (W : Nat → ByteArray) (n : Int) (h0 : 0 ≤ n) (h1 : n ≤ 255) (w : World) (hW : Words w a len W) :
    Calls Yba.prog 6 #[.slice a len cap, .int .u8 n] w fun e w' => Below w.heap.size w w' ∧
      (e = .returned (.tuple #[.slice none 0 0, .bool false]) ∨ ∃ v, e = .returned (.tuple #[v, .bool true]) ∧ len ≤ 1024 ∧ tot (WL W) len ≤ 65536 ∧ ownsB w' w.heap.size v (lineK (sepL n.toNat) (WL W) len)) := by
  by_cases hbig : 1024 < len
  · go_enter Yba.func6, Yba.ntmps6
    go_wp2
    go_ret2
    exact ⟨Below.refl _ _, .inl rfl⟩
  have hlen : len ≤ 1024 := by omega
  clear hbig
  go_enter Yba.func6, Yba.ntmps6
  go_wp2
  go_loop [6, 7] (fun t i => ∃ k : Nat, k ≤ len ∧ i = .int .i64 k ∧ t = .int .i64 (tot (WL W) k) ∧ ∀ j, j < k → (WL W j).length ≤ 4096) (fun _ i => len - (intOf i).toNat)
  case atStart => exact ⟨0, Nat.zero_le _, rfl, rfl, fun j hj => by omega⟩
  case round =>
    obtain ⟨k, hk, rfl, rfl, hsm⟩ := hrel
    have hts := tot_small (WL W) k hsm
    have HS : Hid (∀ j, j < k → (WL W j).length ≤ 4096) := hsm
    clear hsm
    by_cases hlt : k < len
    · obtain ⟨b, off, rfl, hc⟩ := words_cell hW (Below.refl _ _) hlt
      have hwl := WL_len W k
      by_cases hb : 4096 < (W k).size
      · clear hwl
        go_wp2
        go_ret2
        exact ⟨Below.refl _ _, .inl rfl⟩
      · have HW : Hid ((WL W k).length = (W k).size) := hwl
        clear hwl
        have hb' : (W k).size ≤ 4096 := by omega
        clear hb
        go_wp2
        go_round
        case rel =>
          refine ⟨k + 1, by omega, by go_num, ?_, ?_⟩
          · show _ = Value.int .i64 ((tot (WL W) k + (WL W k).length : Nat) : Int)
            rw [HW.out]
            go_num
          · intro j hj
            by_cases e : j = k
            · subst e; rw [HW.out]; omega
            · exact HS.out j (by omega)
        case measure => simp [intOf]; omega
    · obtain rfl : k = len := by omega
      clear hlt hk HS
      by_cases hb : 65536 < tot (WL W) k
      · go_wp2
        go_ret2
        exact ⟨Below.refl _ _, .inl rfl⟩
      · have hb' : tot (WL W) k ≤ 65536 := by omega
        clear hb
        have hss := sepS_size n
        obtain ⟨v1, w1, hcv, ho1, hb1⟩ := conv_bytes w (sepS n) (by unfold maxLen; omega)
        have hL : Lin w n W 0 v1 w1 := ⟨by rw [sepS_list] at ho1; exact ho1, hb1⟩
        have HSL : Hid ((sepS n).data.toList = sepL n.toNat) := sepS_list n
        clear ho1 hb1
        obtain ⟨sp, hsp⟩ : ∃ sp, sp = sepS n := ⟨_, rfl⟩
        have hsep : ∀ w, Calls Yba.prog 7 #[.int .u8 n] w fun e w' => e = .returned (.string sp) ∧ w = w' := by rw [hsp]; exact sep_any n h0 h1
        rw [← hsp] at hss hcv HSL
        clear hsp
        go_wp2_with (first | (go_at_call 7; refine (hsep _).mono ?_; rintro e w' ⟨rfl, rfl⟩))
        clear hcv hsep
        go_loopw [9, 10] (fun v i wr => ∃ j : Nat, j ≤ k ∧ i = .int .i64 j ∧ Lin w n W j v wr) (fun _ i _ => k - (intOf i).toNat)
        case atStart => exact ⟨0, Nat.zero_le _, rfl, hL⟩
        case round =>
          clear hL
          obtain ⟨j, hj, rfl, hL⟩ := hrel
          have hbs := hL.below.size
          have hown := hL.own
          have hll := lineK_len (sepL n.toNat) (sepL_len _) (WL W) j
          have htj := tot_le (WL W) hj
          by_cases hlt : j < k
          · obtain ⟨b, off, rfl, hc⟩ := words_cell hW hL.below hlt
            have hwj : (W j).size ≤ 65536 := by
              have h1 := tot_le (WL W) (show j + 1 ≤ k by omega)
              have h2 : tot (WL W) (j + 1) = tot (WL W) j + (WL W j).length := rfl
              have h3 := WL_len W j
              omega
            by_cases hz : 0 < j
            · have hz' : ∀ w1, Below w.heap.size wr w1 → w1.cell? ⟨b, off + j, none⟩ = some (.string (W j)) := by
                intro w1 hb1
                obtain ⟨b', off', he, hc'⟩ := words_cell hW (hL.below.trans hb1) hlt
                cases he
                exact hc'
              have HZ : Hid (∀ w1, Below w.heap.size wr w1 → w1.cell? ⟨b, off + j, none⟩ = some (.string (W j))) := hz'
              clear hz'
              have hsl : sp.data.toList.length = sp.size := by simp
              have HSP : Hid (sp.data.toList.length = sp.size) := hsl
              clear hsl
              go_wp2_with (first | (at_builtin; refine wpB_str _ rfl (.tmp 47) (.tmp 48) rfl w.heap.size _ _ sp rfl hown (by omega) rfl (by omega) ?_; intro v2 w2 ho2 hb2; have hc2 := HZ.out w2 hb2) | (go_at_call 9; refine (quote_any _ _ (W j) w.heap.size _ ho2 (by have := hb2.size; omega) (by have := HSP.out; simp only [List.length_append]; omega)).mono ?_; rintro e w3 ⟨v3, rfl, ho3, hb3⟩))
              have R := lin_next hL (by rw [if_pos hz, HSL.out]) ho3 (hb2.trans hb3)
              go_roundw
              case rel => exact ⟨j + 1, by omega, by go_num, R⟩
              case measure => simp [intOf]; omega
            · go_wp2_with (first | (go_at_call 9; refine (quote_any _ _ (W j) w.heap.size _ hown (by omega) (by omega)).mono ?_; rintro e w3 ⟨v3, rfl, ho3, hb3⟩))
              have R := lin_next hL (by rw [if_neg hz, List.append_nil]) ho3 hb3
              go_roundw
              case rel => exact ⟨j + 1, by omega, by go_num, R⟩
              case measure => simp [intOf]; omega
          · obtain rfl : j = k := by omega
            go_wp2
            go_ret2
            exact ⟨hL.below, .inr ⟨_, rfl, hlen, hb', hown⟩⟩
end Go.Proofs.Ybulkegw
