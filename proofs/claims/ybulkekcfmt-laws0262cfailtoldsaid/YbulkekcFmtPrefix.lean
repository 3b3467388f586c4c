/-
  THE WALKS of strings.HasPrefix and zzs0262cisprefix.
-/
import Derived.Test.YbulkekcFmtRows
import Derived.WalkKit
import Derived.WalkSpells
import Derived.WalkLawsBesides
import Derived.RegionTactic
namespace Go.Proofs.YbulkekcFmt
open Go.RowKit

/-- T is a head of M. -/
def pre (M T : List UInt8) : Bool := decide (T.length ≤ M.length) && (M.take T.length == T)

theorem ret_bool {a b : Bool} (h : a = b) : Ending.returned (.bool a) = .returned (.bool b) := by rw [h]

theorem pre_hit (s t : ByteArray) (h : t.size ≤ s.size) : ((s.extract 0 t.size).toList == t.toList) = pre s.data.toList t.data.toList := by
  unfold pre
  rw [ByteArray.toList_eq, ByteArray.toList_eq, ByteArray.data_extract, Array.toList_extract]
  have e1 : t.data.toList.length = t.size := by simp
  have e2 : s.data.toList.length = s.size := by simp
  rw [e1, e2, decide_eq_true h]
  simp [List.extract]

theorem pre_miss (s t : ByteArray) (h : ¬ t.size ≤ s.size) : pre s.data.toList t.data.toList = false := by
  unfold pre
  have e1 : t.data.toList.length = t.size := by simp
  have e2 : s.data.toList.length = s.size := by simp
  rw [e1, e2, decide_eq_false h]
  rfl

theorem hasPrefix_any (s t : ByteArray) (w : World) :
    Calls Ybaf.prog 15 #[.string s, .string t] w fun e w' => e = .returned (.bool (pre s.data.toList t.data.toList)) ∧ w = w' := by
  by_cases h : t.size ≤ s.size
  · go_enter Ybaf.func15, Ybaf.ntmps15
    go_wp2
    go_ret
    exact ⟨ret_bool (pre_hit s t h), rfl⟩
  · have hd : (decide (t.size ≤ s.size)) = false := by simpa using h
    go_enter Ybaf.func15, Ybaf.ntmps15
    go_wp2
    go_ret
    exact ⟨ret_bool (pre_miss s t h).symm, rfl⟩

/-- A slice of bytes: its elements are T. -/
structure RowB (w : World) (a : Option Addr) (T : List UInt8) : Prop where
  lie : 0 < T.length → ∃ b off, a = some ⟨b, off, none⟩ ∧ b < w.heap.size ∧ ∀ i, i < T.length → w.cell? ⟨b, off + i, none⟩ = some (.int .u8 ((T.getD i 0).toNat : Int))

theorem rowB_cell {w : World} {a : Option Addr} {T : List UInt8} {k : Nat} (h : RowB w a T) (hk : k < T.length) : ∃ b off, a = some ⟨b, off, none⟩ ∧ w.cell? ⟨b, off + k, none⟩ = some (.int .u8 ((T.getD k 0).toNat : Int)) := by
  obtain ⟨b, off, rfl, _, hc⟩ := h.lie (by omega)
  exact ⟨b, off, rfl, hc k hk⟩

theorem rowB_below {w w' : World} {C : Nat} {a : Option Addr} {T : List UInt8} (h : RowB w a T) (hb : Below C w w') (hC : ∀ b off, a = some ⟨b, off, none⟩ → b < C) : RowB w' a T := by
  constructor
  intro h0
  obtain ⟨b, off, rfl, hlt, hc⟩ := h.lie h0
  have := hb.size
  exact ⟨b, off, rfl, by omega, fun i hi => by rw [hb.cell (p := ⟨b, off + i, none⟩) (hC b off rfl)]; exact hc i hi⟩

/-- What the loop of zzs0262cisprefix holds. -/
structure Heads (w : World) (s : ByteArray) (a : Option Addr) (T : List UInt8) (k : Nat) (wr : World) : Prop where
  eqs : ∀ j, j < k → s.data.toList.getD j 0 = T.getD j 0
  row : RowB wr a T
  below : Below w.heap.size w wr
  size : wr.heap.size = w.heap.size

theorem heads_drew {w : World} {s : ByteArray} {a : Option Addr} {T : List UInt8} {k : Nat} {wr : World} (h : Heads w s a T k wr) (he : s.data.toList.getD k 0 = T.getD k 0) : Heads w s a T (k + 1) wr.drew :=
  ⟨fun j hj => by
      by_cases e : j = k
      · subst e; exact he
      · exact h.eqs j (by omega),
    ⟨fun h0 => h.row.lie h0⟩, h.below.drew, h.size⟩

theorem getD_at (s : ByteArray) (k : Nat) (hk : k < s.size) : s.data.toList.getD k 0 = s[k] := by
  have : k < s.data.toList.length := by simpa using hk
  simp only [List.getD, List.getElem?_eq_getElem this, Option.getD_some]
  rfl

theorem pre_no (M T : List UInt8) (k : Nat) (hk : k < T.length) (hne : M.getD k 0 ≠ T.getD k 0) : pre M T = false := by
  unfold pre
  rw [Bool.and_eq_false_iff]
  right
  rw [beq_eq_false_iff_ne]
  intro e
  apply hne
  rw [← e]
  have h1 : (M.take T.length)[k]? = M[k]? := by rw [List.getElem?_take, if_pos hk]
  simp [List.getD, h1]

theorem pre_yes (M T : List UInt8) (h : T.length ≤ M.length) (he : ∀ j, j < T.length → M.getD j 0 = T.getD j 0) : pre M T = true := by
  unfold pre
  rw [Bool.and_eq_true]
  refine ⟨decide_eq_true h, ?_⟩
  rw [beq_iff_eq]
  apply List.ext_getElem
  · simp; omega
  · intro i h1 h2
    have := he i h2
    simp [List.getD, List.getElem?_eq_getElem h2, List.getElem?_eq_getElem (show i < M.length by omega)] at this
    simpa using this

set_option maxHeartbeats 1000000 in
theorem isprefix_any (s : ByteArray) (a : Option Addr) (T : List UInt8) (c : Nat) (w : World) (hs : s.size ≤ 1000000) (h : RowB w a T) :
    Calls Ybaf.prog 10 #[.string s, .slice a T.length c] w fun e w' => e = .returned (.bool (pre s.data.toList T)) ∧ Below w.heap.size w w' ∧ w'.heap.size = w.heap.size := by
  have e2 : s.data.toList.length = s.size := by simp
  have HE : Hid (s.data.toList.length = s.size) := e2
  clear e2
  by_cases hbig : s.size < T.length
  · go_enter Ybaf.func10, Ybaf.ntmps10
    go_wp2
    go_ret
    refine ⟨ret_bool ?_, Below.refl _ _, rfl⟩
    unfold pre
    rw [decide_eq_false (by rw [HE.out]; omega)]
    rfl
  have hle : T.length ≤ s.size := by omega
  clear hbig
  go_enter Ybaf.func10, Ybaf.ntmps10
  go_wp2
  go_loopw [5] (fun i wr => ∃ k : Nat, k ≤ T.length ∧ i = .int .i64 k ∧ Heads w s a T k wr) (fun i _ => T.length - (intOf i).toNat)
  case atStart => exact ⟨0, Nat.zero_le _, rfl, ⟨fun j hj => by omega, h, Below.refl _ _, rfl⟩⟩
  case round =>
    clear h
    obtain ⟨k, hk, rfl, hh⟩ := hrel
    by_cases hlt : k < T.length
    · obtain ⟨b, off, rfl, hc⟩ := rowB_cell hh.row hlt
      have hks : k < s.size := by omega
      have hg := getD_at s k hks
      obtain ⟨x, hx⟩ : ∃ x, x = T.getD k 0 := ⟨_, rfl⟩
      rw [← hx] at hc
      by_cases he : s[k] = x
      · have HX : Hid (s.data.toList.getD k 0 = T.getD k 0) := by rw [hg, he, hx]; exact rfl
        have hb : ((s[k].toNat : Int) == (x.toNat : Int)) = true := by rw [he]; simp
        clear hx hg he
        go_wp2
        go_region
        all_goals
          go_wp2
          go_roundw
          case rel => exact ⟨k + 1, by omega, by go_num, heads_drew hh HX.out⟩
          case measure => simp [intOf]; omega
      · have HX : Hid (s.data.toList.getD k 0 ≠ T.getD k 0) := by rw [hg, ← hx]; exact he
        have hb : ((s[k].toNat : Int) == (x.toNat : Int)) = false := by
          rw [beq_eq_false_iff_ne]
          intro e
          exact he (UInt8.toNat_inj.1 (by omega))
        clear hx hg he
        go_wp2
        go_region
        all_goals
          go_wp2
          go_ret
          exact ⟨ret_bool (pre_no _ _ k hlt HX.out).symm, hh.below.drew, hh.size⟩
    · go_wp2
      go_ret
      exact ⟨ret_bool (pre_yes _ _ (by rw [HE.out]; exact hle) (fun j hj => hh.eqs j (by omega))).symm, hh.below, hh.size⟩
end Go.Proofs.YbulkekcFmt
