/-
  THE WALK of LawS0262CFail.
-/
import Derived.Test.YbulkekcFmtVersionParts
import Derived.Test.YbulkekcFmtFailMagic
namespace Go.Proofs.YbulkekcFmt
open Go.RowKit

theorem new_any (s : ByteArray) (w : World) : Calls Ybaf.prog 11 #[.string s] w fun e w' => e = .returned (.iface 51 (.pointer (some ⟨w.heap.size, 0, none⟩))) ∧ w' = w.alloc (.cells #[.string s] 53) := by
  go_enter Ybaf.func11, Ybaf.ntmps11
  go_wp2
  go_ret
  exact ⟨rfl, rfl⟩

/-- What readMagic gives the law. -/
structure Gave (w w' : World) (R N : Nat) : Prop where
  calls : w'.cell? ⟨R, 2, none⟩ = some (.int .i64 1)
  held : w'.cell? ⟨N, 1, none⟩ = some (.iface 51 (.pointer (some ⟨w.heap.size, 0, none⟩)))
  below : Below w.heap.size w w'

theorem gave (w w2 : World) (v : Value) (q : Addr) (cq : Array Value) (tq : TypeId) (hE : w.cell? ⟨0, 0, none⟩ = some (.iface 51 (.pointer (some q)))) (hg : w.cell? ⟨1, 0, none⟩ = some (.iface 67 (.agg #[.pointer (some ⟨2, 25, none⟩)])))
    (hq : w.heap[q.block]? = some (.cells cq tq (0, 0))) (hb : Below (w.heap.size + 1) (w.alloc (.cells #[.string ⟨#[98, 97, 100, 32, 114, 101, 97, 100]⟩] 53)) w2) :
    Calls Ybaf.prog 9 #[.iface 32 (.pointer (some ⟨w2.heap.size, 0, none⟩)), .string ⟨#[106]⟩] (w2.alloc (.cells #[v, .iface 51 (.pointer (some ⟨w.heap.size, 0, none⟩)), .int .i64 0, .slice none 0 0, .slice none 0 0] 36)) fun e w' => ∃ N, e = .returned (.tuple #[.int .i64 0, .iface 60 (.pointer (some ⟨N, 0, none⟩))]) ∧ Gave w w' w2.heap.size N := by
  have l0 : 0 < w.heap.size := World.block_lt_of_cell? _ _ hE
  have l1 : 1 < w.heap.size := World.block_lt_of_cell? _ _ hg
  have lq := lt_of_block hq
  have sz := hb.size
  simp at sz
  have b0 : Below w.heap.size w w2 := ((Below.refl w.heap.size w).alloc (Nat.le_refl _) _).trans (hb.mono (by omega))
  have bad : w2.heap[w.heap.size]? = some (.cells #[.string ⟨#[98, 97, 100, 32, 114, 101, 97, 100]⟩] 53 (0, 0)) := by
    rw [hb.block _ (by omega)]
    show (w.heap.push _)[w.heap.size]? = _
    simp
  have b1 := b0.alloc (by omega) (.cells #[v, .iface 51 (.pointer (some ⟨w.heap.size, 0, none⟩)), .int .i64 0, .slice none 0 0, .slice none 0 0] 36)
  refine (magic_fail w2.heap.size v w.heap.size ⟨#[98, 97, 100, 32, 114, 101, 97, 100]⟩ q cq tq _ (by omega) ?_ ?_ ?_ (by omega) ?_ (by omega) (by omega) ⟨?_⟩).mono fun e w' ⟨N, he, hF⟩ => ⟨N, he, ?_, hF.held, ?_⟩
  · rw [b1.cell (p := ⟨0, 0, none⟩) l0]; exact hE
  · rw [b1.cell (p := ⟨1, 0, none⟩) l1]; exact hg
  · rw [b1.block _ lq]; exact hq
  · rw [Below.heap_alloc _ _ _ (by omega)]; exact bad
  · show (w2.heap.push _)[w2.heap.size]? = _
    simp
  · obtain ⟨g3, c3, g4, c4, hr, _, _⟩ := hF.magic.rd
    exact (rd_cells hr).2.2.1
  · have k := hF.magic.keep.below (Nat.le_of_lt (by simp))
    exact b1.trans (k.mono (by omega))

theorem fail_own {w w2 : World} {v2 : Value} {n : Nat} {xs : List Value} {o : Obj} (ho : w2.ownsRow (w.heap.size + 1) 5 1 v2 (0 + n) xs) (hg : (w.alloc o).grownBy w2 (Value.slice none 0 0).ownBlock) : ∃ ao cap, v2 = .slice ao n cap ∧ Below (w.heap.size + 1) (w.alloc o) w2 := by
  rw [Nat.zero_add] at ho
  obtain ⟨ao, cap, rfl, _⟩ := buf_shape ho
  refine ⟨ao, cap, rfl, (Below.refl _ _).grown hg (by simp) (fun k hk => ?_)⟩
  have hk' : (none : Option Nat) = some k := hk
  cases hk'

set_option maxRecDepth 4000 in
set_option maxHeartbeats 4000000 in
theorem fail_small (a : Option Addr) (D : List UInt8) (n : Nat) (HD : Hid (D.length = n)) (c : Nat) (w : World) (hn : n ≤ 1024) (hD : Came w a D c) (q : Addr) (cq : Array Value) (tq : TypeId) (hE : w.cell? ⟨0, 0, none⟩ = some (.iface 51 (.pointer (some q)))) (hg : w.cell? ⟨1, 0, none⟩ = some (.iface 67 (.agg #[.pointer (some ⟨2, 25, none⟩)])))
    (hq : w.heap[q.block]? = some (.cells cq tq (0, 0))) :
    Calls Ybaf.prog 6 #[.slice a n c] w fun e w' => e = .returned (.bool true) ∧ Below w.heap.size w w' := by
  obtain ⟨i5, h5a, h5b, h5c, h5d⟩ := info_parts info5
  have hne1 := fun w t x => run_neq_iface_nil (P := Ybaf.prog) w 25 iface25 t x
  have HG : Hid (∀ w2 v, Below (w.heap.size + 1) (w.alloc (.cells #[.string ⟨#[98, 97, 100, 32, 114, 101, 97, 100]⟩] 53)) w2 → Calls Ybaf.prog 9 #[.iface 32 (.pointer (some ⟨w2.heap.size, 0, none⟩)), .string ⟨#[106]⟩] (w2.alloc (.cells #[v, .iface 51 (.pointer (some ⟨w.heap.size, 0, none⟩)), .int .i64 0, .slice none 0 0, .slice none 0 0] 36)) fun e w' => ∃ N, e = .returned (.tuple #[.int .i64 0, .iface 60 (.pointer (some ⟨N, 0, none⟩))]) ∧ Gave w w' w2.heap.size N) :=
    fun w2 v hb => gave w w2 v q cq tq hE hg hq hb
  clear hE hg hq
  cases a with
  | none =>
    obtain ⟨hD0, rfl⟩ := hD.nil rfl
    obtain rfl : n = 0 := by have := HD.out; rw [hD0] at this; simpa using this.symm
    clear hD0
    have hG2 := HG.out (w.alloc (.cells #[.string ⟨#[98, 97, 100, 32, 114, 101, 97, 100]⟩] 53)) (.slice none 0 0) (Below.refl _ _)
    simp only [World.size_alloc] at hG2
    go_enter Ybaf.func6, Ybaf.ntmps6
    go_wp2_with (first | (go_at_call 11; refine (new_any ⟨#[98, 97, 100, 32, 114, 101, 97, 100]⟩ w).mono ?_; rintro e w1 ⟨rfl, rfl⟩) | (at_builtin; refine wpList_append_own_none rfl (.const (.slice none 0 0)) (.tmp 12) 31 rfl (w.heap.size + 1) 5 i5 1 Ybaf.underlying31 h5a _ 0 [] rfl (World.ownsRow_nil _ _ _ _) rfl ?_) | (go_at_call 9; refine hG2.mono ?_; rintro e w4 ⟨N, rfl, hGv⟩; obtain ⟨hcl, hhd, hbl⟩ := hGv) | (go_at_call 12; refine (is_wrap_same N 0 ⟨w.heap.size, 0, none⟩ w4 hhd).mono ?_; rintro e w5 ⟨rfl, rfl⟩))
    go_ret
    exact ⟨rfl, hbl⟩
  | some x =>
    go_enter Ybaf.func6, Ybaf.ntmps6
    go_wp2_with (first | (go_at_call 11; refine (new_any ⟨#[98, 97, 100, 32, 114, 101, 97, 100]⟩ w).mono ?_; rintro e w1 ⟨rfl, rfl⟩) | (at_builtin; refine wpList_append_own _ rfl (.const (.slice none 0 0)) (.tmp 12) 31 rfl (w.heap.size + 1) 5 i5 (.int .u8 0) 1 1 Ybaf.underlying31 h5a h5b h5c h5d rfl (by decide) _ 0 [] rfl (World.ownsRow_nil _ _ _ _) x n c (D.map bv) rfl (by rw [List.length_map, HD.out, Nat.mul_one]) (came_cells hD ((Below.refl w.heap.size w).alloc (Nat.le_refl _) _)) (bv_one D) (by unfold maxLen; omega) (by omega) (by simp) ?_; intro v2 w2 ho2 hg2 _; obtain ⟨ao, cap, rfl, hB⟩ := fail_own ho2 hg2; clear ho2 hg2; have hG2 := HG.out w2 (.slice ao n cap) hB) | (go_at_call 9; refine hG2.mono ?_; rintro e w4 ⟨N, rfl, hGv⟩; obtain ⟨hcl, hhd, hbl⟩ := hGv) | (go_at_call 12; refine (is_wrap_same N 0 ⟨w.heap.size, 0, none⟩ w4 hhd).mono ?_; rintro e w5 ⟨rfl, rfl⟩))
    go_ret
    exact ⟨rfl, hbl⟩

set_option maxRecDepth 4000 in
/-- Every input. -/
theorem fail_any (a : Option Addr) (D : List UInt8) (n : Nat) (HD : Hid (D.length = n)) (c : Nat) (w : World) (hD : Came w a D c) (q : Addr) (cq : Array Value) (tq : TypeId) (hE : w.cell? ⟨0, 0, none⟩ = some (.iface 51 (.pointer (some q)))) (hg : w.cell? ⟨1, 0, none⟩ = some (.iface 67 (.agg #[.pointer (some ⟨2, 25, none⟩)])))
    (hq : w.heap[q.block]? = some (.cells cq tq (0, 0))) :
    Calls Ybaf.prog 6 #[.slice a n c] w fun e w' => e = .returned (.bool true) ∧ Below w.heap.size w w' := by
  by_cases hn : 1024 < n
  · go_enter Ybaf.func6, Ybaf.ntmps6
    go_wp2
    go_ret
    exact ⟨rfl, Below.refl _ _⟩
  · exact fail_small a D n HD c w (by omega) hD q cq tq hE hg hq
end Go.Proofs.YbulkekcFmt
