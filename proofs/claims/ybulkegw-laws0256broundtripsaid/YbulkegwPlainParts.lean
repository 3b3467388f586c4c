/-
  LawS0256BPlain: what its loops hold; no walk here.
-/
import Derived.Test.YbulkegwSplit
namespace Go.Proofs.Ybulkegw
open Go.RowKit

def mapq (c : UInt8) : UInt8 := if c = 34 then 120 else c
def quoteless (s : ByteArray) : ByteArray := ⟨(s.data.toList.map mapq).toArray⟩
theorem quoteless_list (s : ByteArray) : (quoteless s).data.toList = s.data.toList.map mapq := by simp [quoteless]
theorem quoteless_size (s : ByteArray) : (quoteless s).size = s.size := by
  show (s.data.toList.map mapq).toArray.size = s.data.size
  simp
theorem quoteless_no (s : ByteArray) : ∀ c ∈ (quoteless s).data.toList, c ≠ 34 := by
  intro c hc
  rw [quoteless_list] at hc
  obtain ⟨d, _, rfl⟩ := List.mem_map.1 hc
  unfold mapq
  split
  · decide
  · assumption

/-- Loop 1: the first k cells are filled. -/
structure Fill (w : World) (s : ByteArray) (k : Nat) (wr : World) : Prop where
  own : ∃ xs, wr.ownsRow w.heap.size 5 1 (.slice (some ⟨w.heap.size, 0, none⟩) s.size s.size) s.size xs ∧ xs.take k = (s.data.toList.take k).map (fun c => bv (mapq c))
  below : Below w.heap.size w wr

theorem fill_start {w w1 : World} {s : ByteArray} {xs : List Value} (h : w1.ownsRow w.heap.size 5 1 (.slice (some ⟨w.heap.size, 0, none⟩) s.size s.size) s.size xs) (hb : Below w.heap.size w w1) : Fill w s 0 w1 := ⟨⟨xs, h, by simp⟩, hb⟩

theorem fill_cell {w wr : World} {s : ByteArray} {k : Nat} (h : Fill w s k wr) (hk : k < s.size) : (∃ u, wr.cell? ⟨w.heap.size, k, none⟩ = some u) ∧ wr.frozen? ⟨w.heap.size, k, none⟩ = false := by
  obtain ⟨xs, ho, _⟩ := h.own
  have hx : xs.length = s.size := by simpa using ho.1
  exact ⟨⟨xs[k], by rw [ho.cellAt k (by omega), List.getElem?_eq_getElem (by omega)]⟩, ho.frozenAt k⟩

theorem fill_step {w wr : World} {s : ByteArray} {k : Nat} (h : Fill w s k wr) (hk : k < s.size) {n : Int} (hn : n = ((mapq s[k]).toNat : Int)) : Fill w s (k + 1) (wr.setCell ⟨w.heap.size, k, none⟩ (.int .u8 n)) := by
  obtain ⟨xs, ho, ht⟩ := h.own
  have hx : xs.length = s.size := by simpa using ho.1
  refine ⟨⟨_, (ho.stored k _).1, ?_⟩, h.below.setCell (Nat.le_refl _) _⟩
  rw [take_snoc s k hk, List.map_append, ← ht, List.take_succ_eq_append_getElem (by simp; omega)]
  subst hn
  simp [List.take_set, bv]
  exact List.set_eq_of_length_le (by rw [List.length_take]; omega)

theorem fill_conv {w wr : World} {s : ByteArray} (h : Fill w s s.size wr) : (convert 23 9 (.slice (some ⟨w.heap.size, 0, none⟩) s.size s.size)).run Yba.prog wr = .ok (.string (quoteless s)) wr := by
  obtain ⟨xs, ho, ht⟩ := h.own
  have hx : xs.length = s.size := by simpa using ho.1
  rw [List.take_of_length_le (by omega), List.take_of_length_le (by simp)] at ht
  have : xs = (s.data.toList.map mapq).map bv := by rw [ht]; simp
  rw [this] at ho
  exact conv_own ho

/-- Loop 2: the words so far. -/
structure Want (w : World) (tl : List UInt8) (k : Nat) (v : Value) (R : List (List UInt8) × Option Nat) (wr : World) : Prop where
  run : wrun tl k = R
  len : R.1.length ≤ k
  lt : ∀ a, R.2 = some a → a < k
  own : wr.ownsRow w.heap.size 9 1 v R.1.length (R.1.map sv)
  below : Below w.heap.size w wr

def stOf : Option Nat → Int
  | none => -1
  | some a => a

theorem want_start {w wr : World} (tl : List UInt8) (hb : Below w.heap.size w wr) : Want w tl 0 (.slice none 0 0) ([], none) wr :=
  ⟨rfl, Nat.le_refl _, (by intro a h; cases h), World.ownsRow_nil _ _ _ _, hb⟩

theorem getD_at (t : ByteArray) (k : Nat) (hk : k < t.size) : t.data.toList.getD k 0 = t[k] := by
  have : k < t.data.toList.length := by simpa using hk
  simp only [List.getD, List.getElem?_eq_getElem this, Option.getD_some]
  rfl

theorem want_run {w wr : World} {t : ByteArray} {k : Nat} {v : Value} {R : List (List UInt8) × Option Nat} (h : Want w t.data.toList k v R wr) (hk : k < t.size) : wrun t.data.toList (k + 1) = wstep t.data.toList k R t[k] := by
  rw [wrun, h.run, getD_at t k hk]

theorem want_same {w wr : World} {t : ByteArray} {k : Nat} {v : Value} {R R' : List (List UInt8) × Option Nat} (h : Want w t.data.toList k v R wr) (hk : k < t.size) (hR : wstep t.data.toList k R t[k] = R') (h1 : R'.1 = R.1) (h2 : ∀ a, R'.2 = some a → a < k + 1) : Want w t.data.toList (k + 1) v R' wr :=
  ⟨by rw [want_run h hk, hR], by rw [h1]; have := h.len; omega, h2, by rw [h1]; exact h.own, h.below⟩

theorem extract_sv (t : ByteArray) (a k : Nat) : Value.string (t.extract a k) = sv ((t.data.toList.take k).drop a) := by
  unfold sv
  congr 1
  apply ByteArray.ext
  apply Array.toList_inj.1
  simp only [ByteArray.data_extract, Array.toList_extract, List.extract]
  rw [List.drop_take]

theorem want_push {w wr : World} {t : ByteArray} {k a : Nat} {v v' : Value} {L : List (List UInt8)} (h : Want w t.data.toList k v (L, some a) wr) (hk : k < t.size) (hbl : blank t[k] = true)
    {o : Obj} {w1 : World} (hown : w1.ownsRow w.heap.size 9 1 v' (L.length + 1) (L.map sv ++ [.string (t.extract a k)])) (hg : (wr.alloc o).grownBy w1 v.ownBlock) :
    Want w t.data.toList (k + 1) v' (L ++ [(t.data.toList.take k).drop a], none) w1 := by
  refine ⟨by rw [want_run h hk]; simp [wstep, hbl], by have := h.len; simp at this ⊢; omega, (by intro a h; cases h), ?_, ?_⟩
  · rw [extract_sv] at hown
    simpa using hown
  · exact (h.below.alloc h.below.size o).grown hg (by have := h.below.size; simp; omega) (fun g hgb => (h.own.lt g hgb).1)

/-- A row of strings: its value's shape; its cells. -/
theorem own_shape {w : World} {B : Nat} {e : TypeId} {v : Value} {n : Nat} {xs : List Value} (h : w.ownsRow B e 1 v n xs) : ∃ ao cap, v = .slice ao n cap ∧ (0 < n → ∃ g, ao = some ⟨g, 0, none⟩ ∧ ∀ j, j < n → w.cell? ⟨g, j, none⟩ = xs[j]?) := by
  rcases h.2 with ⟨rfl, rfl⟩ | ⟨g, cap, cur, rfl, hb, hg, hnc, hcm, hcs, htake⟩
  · exact ⟨none, 0, rfl, fun h => by omega⟩
  · refine ⟨some ⟨g, 0, none⟩, cap, rfl, fun _ => ⟨g, rfl, fun j hj => ?_⟩⟩
    exact h.cellAt j (by omega)

theorem split_as (s : ByteArray) (w : World) (LL : List (List UInt8)) (hs : s.size ≤ 1000000) (hq : (runSt s.data.toList).quo = false) (hL : final (runSt s.data.toList) = LL) :
    Calls Yba.prog 8 #[.string s] w fun e w' => ∃ v, e = .returned (.tuple #[v, .nilIface]) ∧ w'.ownsRow w.heap.size 9 1 v LL.length (LL.map sv) ∧ Below w.heap.size w w' := by
  subst hL
  exact split_any s w hs hq

/-- Loop 3: two rows that hold the same strings. -/
structure Both (w : World) (LL : List (List UInt8)) (B1 B2 : Nat) (v1 v2 : Value) (wr : World) : Prop where
  one : wr.ownsRow B1 9 1 v1 LL.length (LL.map sv)
  two : wr.ownsRow B2 9 1 v2 LL.length (LL.map sv)
  below : Below w.heap.size w wr

theorem both_drew {w : World} {LL : List (List UInt8)} {B1 B2 : Nat} {v1 v2 : Value} {wr : World} (h : Both w LL B1 B2 v1 v2 wr) : Both w LL B1 B2 v1 v2 wr.drew := ⟨h.one, h.two, h.below.drew⟩

theorem row_cell {w : World} {B : Nat} {LL : List (List UInt8)} {ao : Option Addr} {cap k : Nat} (h : w.ownsRow B 9 1 (.slice ao LL.length cap) LL.length (LL.map sv)) (hk : k < LL.length) :
    ∃ g, ao = some ⟨g, 0, none⟩ ∧ w.cell? ⟨g, k, none⟩ = some (.string ⟨LL[k].toArray⟩) := by
  obtain ⟨ao', cap', he, hc⟩ := own_shape h
  cases he
  obtain ⟨g, rfl, hcell⟩ := hc (by omega)
  exact ⟨g, rfl, by rw [hcell k hk, List.getElem?_map, List.getElem?_eq_getElem hk]; rfl⟩

end Go.Proofs.Ybulkegw
