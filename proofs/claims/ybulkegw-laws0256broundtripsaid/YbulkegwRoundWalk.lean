/-
  THE WALK of LawS0256BRoundTrip.
-/
import Derived.Test.YbulkegwLine
import Derived.Test.YbulkegwPlainParts
import Derived.RegionTactic
namespace Go.Proofs.Ybulkegw
open Go.RowKit

/-- The last loop: what the splitter gave. -/
structure Got (w : World) (len : Nat) (W : Nat → ByteArray) (B : Nat) (v : Value) (wr : World) : Prop where
  one : wr.ownsRow B 9 1 v len (((List.range len).map (WL W)).map sv)
  below : Below w.heap.size w wr

theorem got_drew {w : World} {len : Nat} {W : Nat → ByteArray} {B : Nat} {v : Value} {wr : World} (h : Got w len W B v wr) : Got w len W B v wr.drew := ⟨h.one, h.below.drew⟩

theorem got_cell {w wr : World} {B len cap k : Nat} {W : Nat → ByteArray} {ao : Option Addr} (h : Got w len W B (.slice ao len cap) wr) (hk : k < len) :
    ∃ g, ao = some ⟨g, 0, none⟩ ∧ wr.cell? ⟨g, k, none⟩ = some (.string (W k)) := by
  obtain ⟨ao', cap', he, hc⟩ := own_shape h.one
  cases he
  obtain ⟨g, rfl, hcell⟩ := hc (by omega)
  refine ⟨g, rfl, ?_⟩
  rw [hcell k hk, List.getElem?_map, List.getElem?_map, List.getElem?_range hk]
  rfl

theorem split_got (t : ByteArray) (w : World) (len : Nat) (W : Nat → ByteArray) (hs : t.size ≤ 1000000) (hq : (runSt t.data.toList).quo = false) (hL : final (runSt t.data.toList) = (List.range len).map (WL W)) :
    Calls Yba.prog 8 #[.string t] w fun e w' => ∃ ao cap, e = .returned (.tuple #[.slice ao len cap, .nilIface]) ∧ w'.ownsRow w.heap.size 9 1 (.slice ao len cap) len (((List.range len).map (WL W)).map sv) ∧ Below w.heap.size w w' := by
  refine (split_as t w _ hs hq hL).mono ?_
  rintro e w' ⟨v, rfl, ho, hb⟩
  have hl : ((List.range len).map (WL W)).length = len := by simp
  rw [hl] at ho
  obtain ⟨ao, cap, rfl, _⟩ := own_shape ho
  exact ⟨ao, cap, rfl, ho, hb⟩

set_option maxHeartbeats 1000000 in
theorem round_any (a : Option Addr) (len cap : Nat) (W : Nat → ByteArray) (n : Int) (h0 : 0 ≤ n) (h1 : n ≤ 255) (w : World) (hW : Words w a len W) :
    Calls Yba.prog 3 #[.slice a len cap, .int .u8 n] w fun e w' => e = .returned (.bool true) ∧ Below w.heap.size w w' := by
  go_enter Yba.func3, Yba.ntmps3
  go_wp2_with fail
  refine (line_any a len cap W n h0 h1 w hW).mono ?_
  rintro e w1 ⟨hb1, rfl | ⟨v, rfl, hl, ht, hown⟩⟩
  · go_wp2
    go_ret
    exact ⟨rfl, hb1⟩
  · have hss := sepS_size n
    have hll := lineK_len (sepL n.toNat) (sepL_len _) (WL W) len
    obtain ⟨sp, hsp⟩ : ∃ sp, sp = sepS n := ⟨_, rfl⟩
    have hsep : ∀ w, Calls Yba.prog 7 #[.int .u8 n] w fun e w' => e = .returned (.string sp) ∧ w = w' := by rw [hsp]; exact sep_any n h0 h1
    have hlaw := round_law n.toNat (WL W) len
    have hsl := sepS_list n
    rw [← hsp] at hss hsl
    rw [← hsl] at hlaw
    have hspl : sp.data.toList.length = sp.size := by simp
    obtain ⟨L, hL⟩ : ∃ L, L = lineK (sepL n.toNat) (WL W) len := ⟨_, rfl⟩
    rw [hsl, ← hL, ← hsl] at hlaw
    rw [← hL] at hll hown
    obtain ⟨t, htt⟩ : ∃ t : ByteArray, t = ⟨(L ++ sp.data.toList).toArray⟩ := ⟨_, rfl⟩
    have htl : t.data.toList = L ++ sp.data.toList := by rw [htt]
    have hts : t.size ≤ 1000000 := by
      have : t.size = t.data.toList.length := by simp
      rw [this, htl, List.length_append]
      omega
    rw [← htl] at hlaw
    have hsplit : ∀ w, Calls Yba.prog 8 #[.string t] w fun e w' => ∃ ao cap, e = .returned (.tuple #[.slice ao len cap, .nilIface]) ∧ w'.ownsRow w.heap.size 9 1 (.slice ao len cap) len (((List.range len).map (WL W)).map sv) ∧ Below w.heap.size w w' :=
      fun w => split_got t w len W hts hlaw.2 hlaw.1
    have hcvt : ∀ w2 v2, ownsB w2 w.heap.size v2 (L ++ sp.data.toList) → (convert 23 9 v2).run Yba.prog w2 = .ok (.string t) w2 := fun w2 v2 h => by rw [htt]; exact conv_ownB h
    have hbs := hb1.size
    have hbd : L.length + sp.size ≤ 100000000 := by omega
    clear hlaw hsl hL hsp hll htt htl hspl hss ht hts
    go_wp2_with (first | (go_at_call 7; refine (hsep _).mono ?_; rintro e w' ⟨rfl, rfl⟩) | (at_builtin; refine wpB_str _ rfl (.tmp 18) (.tmp 20) rfl w.heap.size _ _ sp rfl hown (by omega) rfl hbd ?_; intro v2 w2 ho2 hb2; have hcv2 := hcvt w2 v2 ho2) | (go_at_call 8; refine (hsplit _).mono ?_; rintro e w3 ⟨ao, cap3, rfl, ho3, hb3⟩))
    have hg : Got w len W _ (.slice ao len cap3) w3 := ⟨ho3, hb1.trans (hb2.trans (hb3.mono (by have := hb2.size; omega)))⟩
    clear ho3 hb3 hb2 hcv2 ho2 hcvt hsplit hsep hown hbd
    go_loopw [9] (fun i wq => ∃ k : Nat, k ≤ len ∧ i = .int .i64 k ∧ Got w len W _ (.slice ao len cap3) wq) (fun i _ => len - (intOf i).toNat)
    case atStart => exact ⟨0, Nat.zero_le _, rfl, hg⟩
    case round =>
      clear hg
      obtain ⟨k, hk, rfl, hg⟩ := hrel
      by_cases hlt : k < len
      · obtain ⟨g1, rfl, hc1⟩ := got_cell hg hlt
        obtain ⟨b, off, rfl, hc2⟩ := words_cell hW hg.below hlt
        go_wp2
        go_region
        all_goals
          go_wp2
          go_roundw
          case rel => exact ⟨k + 1, by omega, by go_num, got_drew hg⟩
          case measure => simp [intOf]; omega
      · go_wp2
        go_ret
        exact ⟨rfl, hg.below⟩
end Go.Proofs.Ybulkegw
