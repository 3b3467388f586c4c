/-
  THE WALKS of zzs0256bquote and zzs0256bsep.
-/
import Derived.Test.YbulkegwBytes
import Derived.Test.YbulkegwRound
import Derived.Test.YbulkegwSplit
namespace Go.Proofs.Ybulkegw
open Go.RowKit

/-- What zzs0256bquote holds at a round's head. -/
structure Quo (w : World) (B : Nat) (l : List UInt8) (s : ByteArray) (k : Nat) (v : Value) (wr : World) : Prop where
  own : ownsB wr B v (l ++ [34] ++ innerL (s.data.toList.take k))
  below : Below B w wr
  size : B ≤ wr.heap.size

theorem quo_start {w w1 : World} {B : Nat} {l : List UInt8} {v : Value} (s : ByteArray) (h : ownsB w1 B v (l ++ [34])) (hb : Below B w w1) (hB : B ≤ w.heap.size) : Quo w B l s 0 v w1 :=
  ⟨by simpa [innerL] using h, hb, Nat.le_trans hB hb.size⟩

theorem quo_next {w w1 : World} {B : Nat} {l m : List UInt8} {s : ByteArray} {k : Nat} {v v' : Value} {wr : World} (h : Quo w B l s k v wr) (hk : k < s.size) (ho : ownsB w1 B v' m) (hm : m = l ++ [34] ++ innerL (s.data.toList.take k) ++ escB s[k]) (hb : Below B wr w1) : Quo w B l s (k + 1) v' w1 := by
  refine ⟨?_, h.below.trans hb, Nat.le_trans h.size hb.size⟩
  rw [take_snoc s k hk, innerL_snoc, ← List.append_assoc, ← hm]
  exact ho

theorem threeq (c : UInt8) : (((c.toNat : Int) == 34) = true ∧ escB c = [92, c]) ∨ (((c.toNat : Int) == 34) = false ∧ ((c.toNat : Int) == 92) = true ∧ escB c = [92, c]) ∨ (((c.toNat : Int) == 34) = false ∧ ((c.toNat : Int) == 92) = false ∧ escB c = [c]) := by
  by_cases h : c = 34
  · exact .inl ⟨by rw [h]; rfl, by simp [escB, h]⟩
  · by_cases k : c = 92
    · exact .inr (.inl ⟨not34 h, by rw [k]; rfl, by simp [escB, k]⟩)
    · exact .inr (.inr ⟨not34 h, not92 k, by simp [escB, h, k]⟩)

set_option maxHeartbeats 1000000 in
theorem quote_any (v : Value) (l : List UInt8) (s : ByteArray) (B : Nat) (w : World) (hown : ownsB w B v l) (hB : B ≤ w.heap.size) (hb : l.length + 2 * s.size + 4 ≤ 100000000) :
    Calls Yba.prog 9 #[v, .string s] w fun e w' => ∃ v', e = .returned v' ∧ ownsB w' B v' (l ++ quoteL s.data.toList) ∧ Below B w w' := by
  have hs : s.size ≤ 100000000 := by omega
  go_enter Yba.func9, Yba.ntmps9
  go_wp2_with (first | (at_builtin; refine wpB_one _ rfl (.tmp 7) (.tmp 8) rfl B _ l 34 rfl (ownsB_alloc hown _) (by simp; omega) ⟨w.heap.size, 0, none⟩ 1 rfl (cell_one_new _ _ _) (by omega) ?_))
  intro v1 w1 ho1 hb1
  have hq := quo_start s ho1 (((Below.refl B w).alloc hB _).trans hb1) hB
  clear ho1 hb1 hown
  go_wp2
  go_loopw [0, 5] (fun v i wr => ∃ k : Nat, k ≤ s.size ∧ i = .int .i64 k ∧ Quo w B l s k v wr) (fun _ i _ => s.size - (intOf i).toNat)
  case atStart => exact ⟨0, Nat.zero_le _, rfl, hq⟩
  case round =>
    clear hq
    obtain ⟨k, hk, rfl, hq⟩ := hrel
    have hin := innerL_len (s.data.toList.take k)
    have htk : (s.data.toList.take k).length ≤ k := List.length_take_le _ _
    have hlen : (l ++ [34] ++ innerL (s.data.toList.take k)).length + 2 ≤ 100000000 := by simp at hin ⊢; omega
    have hsz := hq.size
    by_cases hlt : k < s.size
    · rcases threeq s[k] with ⟨h4, he⟩ | ⟨h4, h5, he⟩ | ⟨h4, h5, he⟩
      · have HE : Hid (escB s[k] = [92, s[k]]) := he
        clear he
        have tok1 : True := trivial
        have hown := hq.own
        go_wp2_with (first | (at_builtin; have _t := tok1; refine wpB_one _ rfl (.tmp 25) (.tmp 26) rfl B _ (l ++ [34] ++ innerL (s.data.toList.take k)) 92 rfl (ownsB_alloc hown _) (by simp; omega) ⟨wr.heap.size, 0, none⟩ 1 rfl (cell_one_new _ _ _) (by omega) ?_; intro v1 w1 ho1 hb1; clear tok1) | (at_builtin; refine wpB_one _ rfl (.tmp 28) (.tmp 30) rfl B _ (l ++ [34] ++ innerL (s.data.toList.take k) ++ [92]) s[k] rfl (ownsB_alloc ho1 _) (by have := hb1.size; simp at this ⊢; omega) ⟨w1.heap.size, 0, none⟩ 1 rfl (cell_one_new _ _ _) (by simp at hlen ⊢; omega) ?_; intro v2 w2 ho2 hb2))
        have R := quo_next hq hlt ho2 (by rw [HE.out]; simp) (((Below.refl B wr).alloc hsz _).trans (hb1.trans (((Below.refl B w1).alloc (by have := hb1.size; simp at this; omega) _).trans hb2)))
        go_roundw
        case rel => exact ⟨k + 1, by omega, by go_num, R⟩
        case measure => simp [intOf]; omega
      · have HE : Hid (escB s[k] = [92, s[k]]) := he
        clear he
        have tok1 : True := trivial
        have hown := hq.own
        go_wp2_with (first | (at_builtin; have _t := tok1; refine wpB_one _ rfl (.tmp 25) (.tmp 26) rfl B _ (l ++ [34] ++ innerL (s.data.toList.take k)) 92 rfl (ownsB_alloc hown _) (by simp; omega) ⟨wr.heap.size, 0, none⟩ 1 rfl (cell_one_new _ _ _) (by omega) ?_; intro v1 w1 ho1 hb1; clear tok1) | (at_builtin; refine wpB_one _ rfl (.tmp 28) (.tmp 30) rfl B _ (l ++ [34] ++ innerL (s.data.toList.take k) ++ [92]) s[k] rfl (ownsB_alloc ho1 _) (by have := hb1.size; simp at this ⊢; omega) ⟨w1.heap.size, 0, none⟩ 1 rfl (cell_one_new _ _ _) (by simp at hlen ⊢; omega) ?_; intro v2 w2 ho2 hb2))
        have R := quo_next hq hlt ho2 (by rw [HE.out]; simp) (((Below.refl B wr).alloc hsz _).trans (hb1.trans (((Below.refl B w1).alloc (by have := hb1.size; simp at this; omega) _).trans hb2)))
        go_roundw
        case rel => exact ⟨k + 1, by omega, by go_num, R⟩
        case measure => simp [intOf]; omega
      · have HE : Hid (escB s[k] = [s[k]]) := he
        clear he
        have hown := hq.own
        go_wp2_with (first | (at_builtin; refine wpB_one _ rfl (.tmp 28) (.tmp 30) rfl B _ (l ++ [34] ++ innerL (s.data.toList.take k)) s[k] rfl (ownsB_alloc hown _) (by simp; omega) ⟨wr.heap.size, 0, none⟩ 1 rfl (cell_one_new _ _ _) (by omega) ?_; intro v2 w2 ho2 hb2))
        have R := quo_next hq hlt ho2 (by rw [HE.out]) (((Below.refl B wr).alloc hsz _).trans hb2)
        go_roundw
        case rel => exact ⟨k + 1, by omega, by go_num, R⟩
        case measure => simp [intOf]; omega
    · obtain rfl : k = s.size := by omega
      have hown := hq.own
      go_wp2_with (first | (at_builtin; refine wpB_one _ rfl (.tmp 32) (.tmp 33) rfl B _ (l ++ [34] ++ innerL (s.data.toList.take s.size)) 34 rfl (ownsB_alloc hown _) (by simp; omega) ⟨wr.heap.size, 0, none⟩ 1 rfl (cell_one_new _ _ _) (by omega) ?_; intro v2 w2 ho2 hb2))
      go_ret
      refine ⟨_, rfl, ?_, hq.below.trans (((Below.refl B wr).alloc hsz _).trans hb2)⟩
      rw [List.take_of_length_le (by simp)] at ho2
      simpa [quoteL] using ho2

/-- The blanks, by the selector. -/
def sepS (n : Int) : ByteArray := ⟨(sepL n.toNat).toArray⟩

theorem sep_any (n : Int) (h0 : 0 ≤ n) (h1 : n ≤ 255) (w : World) : Calls Yba.prog 7 #[.int .u8 n] w fun e w' => e = .returned (.string (sepS n)) ∧ w = w' := by
  have hm : n % 3 = 0 ∨ n % 3 = 1 ∨ n % 3 = 2 := by omega
  have hx : n = (n.toNat : Int) := by omega
  rcases hm with h | h | h
  · have HS : Hid (sepS n = ⟨#[32]⟩) := by unfold sepS sepL; rw [if_pos (by omega)]; exact rfl
    have h2 : (n % 3 == 0) = true := by rw [h]; rfl
    clear h hx
    go_enter Yba.func7, Yba.ntmps7
    go_wp2
    all_goals go_ret
    all_goals exact ⟨by rw [HS.out]; rfl, rfl⟩
  · have HS : Hid (sepS n = ⟨#[9]⟩) := by unfold sepS sepL; rw [if_neg (by omega), if_pos (by omega)]; exact rfl
    have h2 : (n % 3 == 0) = false := by rw [h]; rfl
    have h3 : (n % 3 == 1) = true := by rw [h]; rfl
    clear h hx
    go_enter Yba.func7, Yba.ntmps7
    go_wp2
    all_goals go_ret
    all_goals exact ⟨by rw [HS.out]; rfl, rfl⟩
  · have HS : Hid (sepS n = ⟨#[32, 9, 32]⟩) := by unfold sepS sepL; rw [if_neg (by omega), if_neg (by omega)]; exact rfl
    have h2 : (n % 3 == 0) = false := by rw [h]; rfl
    have h3 : (n % 3 == 1) = false := by rw [h]; rfl
    clear h hx
    go_enter Yba.func7, Yba.ntmps7
    go_wp2
    all_goals go_ret
    all_goals exact ⟨by rw [HS.out]; rfl, rfl⟩
end Go.Proofs.Ybulkegw
