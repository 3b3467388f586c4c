/-
  THE WALKS of zzs0259cclone and zzs0259csame.
-/
import Derived.Test.YbulkeimFmtRows
import Derived.WalkKit
import Derived.WalkSpells
import Derived.WalkLawsBesides
import Derived.Laws.CopyOwn
import Derived.Lib.SliceRun
import Derived.RegionTactic
namespace Go.Proofs.YbulkeimFmt
open Go.RowKit

theorem info5 : (Ybaf.prog.info? 5).map (fun i => (i.zero, i.size, i.bytes)) = some (some (.int .u8 0), 1, 1) := by kernel_rfl
theorem size5 : (Ybaf.prog.info? 5).map (·.size) = some 1 := by kernel_rfl

/-- A slice of bytes: what its cells hold. -/
structure Row (w : World) (a : Option Addr) (n : Nat) (z : Nat → Int) : Prop where
  lie : 0 < n → ∃ b off, a = some ⟨b, off, none⟩ ∧ b < w.heap.size ∧ ∀ i, i < n → w.cell? ⟨b, off + i, none⟩ = some (.int .u8 (z i))

theorem row_cell {w : World} {a : Option Addr} {n k : Nat} {z : Nat → Int} (h : Row w a n z) (hk : k < n) : ∃ b off, a = some ⟨b, off, none⟩ ∧ w.cell? ⟨b, off + k, none⟩ = some (.int .u8 (z k)) := by
  obtain ⟨b, off, rfl, _, hc⟩ := h.lie (by omega)
  exact ⟨b, off, rfl, hc k hk⟩

theorem row_below {w w' : World} {C : Nat} {a : Option Addr} {n : Nat} {z : Nat → Int} (h : Row w a n z) (hb : Below C w w') (hC : w.heap.size ≤ C) : Row w' a n z := by
  constructor
  intro h0
  obtain ⟨b, off, rfl, hlt, hc⟩ := h.lie h0
  have := hb.size
  exact ⟨b, off, rfl, by omega, fun i hi => by rw [hb.cell (p := ⟨b, off + i, none⟩) (show b < C by omega)]; exact hc i hi⟩

/-- The two slices of the comparison, in a later world. -/
structure Two (w : World) (a1 a2 : Option Addr) (n : Nat) (z : Nat → Int) (wr : World) : Prop where
  one : Row wr a1 n z
  two : Row wr a2 n z
  below : Below w.heap.size w wr
  size : wr.heap.size = w.heap.size

theorem two_drew {w : World} {a1 a2 : Option Addr} {n : Nat} {z : Nat → Int} {wr : World} (h : Two w a1 a2 n z wr) : Two w a1 a2 n z wr.drew :=
  ⟨row_below h.one (Below.refl wr.heap.size wr).drew (Nat.le_refl _), row_below h.two (Below.refl wr.heap.size wr).drew (Nat.le_refl _), h.below.drew, h.size⟩

set_option maxHeartbeats 1000000 in
theorem same_any (a1 a2 : Option Addr) (n c1 c2 : Nat) (z : Nat → Int) (w : World) (hn : n ≤ 1000000) (h1 : Row w a1 n z) (h2 : Row w a2 n z) :
    Calls Ybaf.prog 8 #[.slice a1 n c1, .slice a2 n c2] w fun e w' => e = .returned (.bool true) ∧ Below w.heap.size w w' ∧ w'.heap.size = w.heap.size := by
  have ht : Two w a1 a2 n z w := ⟨h1, h2, Below.refl _ _, rfl⟩
  clear h1 h2
  go_enter Ybaf.func8, Ybaf.ntmps8
  go_wp2
  go_loopw [5] (fun i wr => ∃ k : Nat, k ≤ n ∧ i = .int .i64 k ∧ Two w a1 a2 n z wr) (fun i _ => n - (intOf i).toNat)
  case atStart => exact ⟨0, Nat.zero_le _, rfl, ht⟩
  case round =>
    clear ht
    obtain ⟨k, hk, rfl, ht⟩ := hrel
    by_cases hlt : k < n
    · obtain ⟨b1, o1, rfl, hc1⟩ := row_cell ht.one hlt
      obtain ⟨b2, o2, rfl, hc2⟩ := row_cell ht.two hlt
      go_wp2
      go_region
      all_goals
        go_wp2
        go_roundw
        case rel => exact ⟨k + 1, by omega, by go_num, two_drew ht⟩
        case measure => simp [intOf]; omega
    · go_wp2
      go_ret
      exact ⟨rfl, ht.below, ht.size⟩

theorem row_made {w : World} {B n : Nat} {cur cs : List Value} {z : Nat → Int} (h : w.heap[B]? = some (.cells (splice cur 0 cs).toArray 5 (0, 0))) (hc : cs = (List.range n).map fun i => Value.int .u8 (z i)) (hz : cur.length = n) : Row w (some ⟨B, 0, none⟩) n z := by
  have e : splice cur 0 cs = cs := by
    unfold splice
    rw [List.drop_of_length_le (by rw [hc]; simp; omega)]
    simp
  rw [e] at h
  constructor
  intro _
  refine ⟨B, 0, rfl, lt_of_block h, fun i hi => ?_⟩
  rw [Nat.zero_add, cell_of_row w B i _ 5 (0, 0) h]
  subst hc
  simp [hi]

set_option maxHeartbeats 1000000 in
theorem clone_any (a : Option Addr) (n c : Nat) (z : Nat → Int) (w : World) (hn : n ≤ 1000000) (hnil : a = none → n = 0) (h : Row w a n z) :
    Calls Ybaf.prog 6 #[.slice a n c] w fun e w' => ∃ ao cp, e = .returned (.slice ao n cp) ∧ Row w' ao n z ∧ Below w.heap.size w w' := by
  have heq := fun (w : World) (a : Option Addr) (n c : Nat) => Lib.run_eql_slice_nil (P := Ybaf.prog) w 22 5 a n c 0 0 Ybaf.underlying22
  cases a with
  | none =>
    obtain rfl := hnil rfl
    go_enter Ybaf.func6, Ybaf.ntmps6
    go_wp2
    go_ret
    exact ⟨none, ⟨0, rfl⟩, ⟨fun h => by omega⟩, Below.refl _ _⟩
  | some x =>
    clear hnil
    obtain ⟨i5, h5a, h5b, h5c, h5d⟩ := info_parts info5
    obtain ⟨cs, hcs⟩ : ∃ cs : List Value, cs = (List.range n).map fun i => Value.int .u8 (z i) := ⟨_, rfl⟩
    have hcl : cs.length = n := by rw [hcs]; simp
    have hpos : 0 < cs.length → ∃ ad, some x = some ad ∧ ∀ j v, cs[j]? = some v → w.cell? (ad.add j) = some v := by
      intro h0
      obtain ⟨b, off, he, _, hc⟩ := h.lie (by omega)
      refine ⟨x, rfl, fun j v hj => ?_⟩
      obtain rfl : x = ⟨b, off, none⟩ := by simpa using he
      have hjn : j < n := by have := (List.getElem?_eq_some_iff.1 hj).1; omega
      rw [Addr.add_lit, hc j hjn]
      rw [hcs] at hj
      simpa [List.getElem?_map, List.getElem?_range hjn] using hj
    have hone : ∀ v ∈ cs, v.oneCell' = true := by
      intro v hv
      rw [hcs] at hv
      obtain ⟨_, _, rfl⟩ := List.mem_map.1 hv
      rfl
    have HC : Hid (cs = (List.range n).map fun i => Value.int .u8 (z i)) := hcs
    have HL : Hid (cs.length = n) := hcl
    have HP : Hid (0 < cs.length → ∃ ad, some x = some ad ∧ ∀ j v, cs[j]? = some v → w.cell? (ad.add j) = some v) := hpos
    have HO : Hid (∀ v ∈ cs, v.oneCell' = true) := hone
    clear hcs hcl hpos hone
    go_enter Ybaf.func6, Ybaf.ntmps6
    go_wp2_with (first | (at_make; refine wpList_make_full _ rfl (.tmp 7) (.tmp 7) 22 rfl w.heap.size 5 i5 (.int .u8 0) 1 Ybaf.underlying22 h5a h5b h5c _ _ _ _ n rfl rfl rfl rfl (by rw [h5d]; omega) (by unfold maxLen; omega) (Nat.le_refl _) ?_))
    intro w1 hown hgrow
    have hb1 : Below w.heap.size w w1 := (Below.refl _ _).grown hgrow (Nat.le_refl _) (fun k hk => by cases hk)
    obtain ⟨cur, hg, hcz⟩ : ∃ cur : List Value, w1.heap[w.heap.size]? = some (.cells cur.toArray 5 (0, 0)) ∧ cur.length = n := by
      rcases hown.2 with ⟨h', _⟩ | ⟨g', cap', cur, h', _, hg, _, _, hcs, _⟩
      · simp at h'
      · simp only [Value.slice.injEq, Option.some.injEq, Addr.mk.injEq, and_true, true_and] at h'
        obtain ⟨rfl, rfl⟩ := h'
        exact ⟨cur.toList, by simpa using hg, by simpa using hcs⟩
    have HG : Hid (w1.heap[w.heap.size]? = some (.cells cur.toArray 5 (0, 0))) := hg
    have HZ : Hid (cur.length = n) := hcz
    clear hown hgrow hg hcz
    go_wp2_with (first | (refine wpList_copy_splice rfl (.tmp 9) (.tmp 10) 22 22 rfl 5 Ybaf.underlying22 size5 _ _ _ _ _ _ rfl rfl w.heap.size 0 cur 5 HG.out cs (by rw [HL.out]; simp) (fun h0 => ⟨rfl, (by obtain ⟨ad, h1, h2⟩ := HP.out h0; exact ⟨ad, h1, fun j v hj => by rw [hb1.cell]; exact h2 j v hj; exact World.block_lt_of_cell? w _ (h2 j v hj)⟩)⟩) (by rw [HL.out, HZ.out]; omega) HO.out w.heap.size w hb1 (Nat.le_refl _) ?_))
    intro w2 HG2 hb2
    have hrow : Row w2 (some ⟨w.heap.size, 0, none⟩) n z := row_made HG2.out HC.out HZ.out
    clear HG2
    go_wp2
    go_ret
    first | exact ⟨some ⟨w.heap.size, 0, none⟩, ⟨n, rfl⟩, hrow, hb2⟩ | exact ⟨_, _, rfl, hrow, hb2⟩
end Go.Proofs.YbulkeimFmt
