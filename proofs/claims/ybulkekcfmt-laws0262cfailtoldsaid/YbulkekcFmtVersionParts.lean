/-
  LawS0262CVersion: what its walk wants.
-/
import Derived.Test.YbulkekcFmtReadMagic
import Derived.Deep.Cut
import Derived.Deep.CutBlock
import Derived.Laws.AppendOwnNone
import Derived.Lib.AppendStr
import Derived.OpenShut
namespace Go.Proofs.YbulkekcFmt
open Go.RowKit

/-- The law's own bytes. -/
structure Buf (w : World) (v : Value) (wc : World) : Prop where
  own : ∃ l : List UInt8, l.length ≤ 1042 ∧ wc.ownsRow w.heap.size 5 1 v l.length (l.map bv)
  below : Below w.heap.size w wc

theorem buf_grown {w w0 w1 : World} {v0 v1 : Value} {n0 n : Nat} {xs0 : List Value} {l : List UInt8} (hb : Below w.heap.size w w0) (h0 : w0.ownsRow w.heap.size 5 1 v0 n0 xs0) (ho : w1.ownsRow w.heap.size 5 1 v1 n (l.map bv)) (hn : l.length ≤ 1042) (hg : w0.grownBy w1 v0.ownBlock) : Buf w v1 w1 :=
  ⟨⟨l, hn, by have := ho.1; simp at this; rw [← this] at ho; exact ho⟩, hb.grown hg hb.size (fun k hk => (h0.lt k hk).1)⟩

/-- The slice of bytes that came in. -/
structure Came (w : World) (a : Option Addr) (D : List UInt8) (c : Nat) : Prop where
  row : RowB w a D
  nil : a = none → D = [] ∧ c = 0

theorem came_cells {w w1 : World} {x : Addr} {D : List UInt8} {c : Nat} (h : Came w (some x) D c) (hb : Below w.heap.size w w1) : ∀ j u, (D.map bv)[j]? = some u → w1.cell? (x.add j) = some u := by
  intro j u hj
  have hjD : j < D.length := by have := (List.getElem?_eq_some_iff.1 hj).1; simpa using this
  obtain ⟨b, off, he, hlt, hc⟩ := h.row.lie (by omega)
  obtain rfl : x = ⟨b, off, none⟩ := by simpa using he
  rw [Addr.add_lit, hb.cell (p := ⟨b, off + j, none⟩) hlt, hc j hjD]
  simp [List.getElem?_eq_getElem hjD, bv] at hj
  simp [List.getD, List.getElem?_eq_getElem hjD, hj]

theorem bv_one (l : List UInt8) : ∀ u ∈ l.map bv, u.oneCell' = true := by
  intro u hu
  obtain ⟨_, _, rfl⟩ := List.mem_map.1 hu
  rfl

theorem le18 (A : Array UInt8) (h : A.size ≤ 18) : 0 + (⟨A⟩ : ByteArray).size ≤ maxLen := by
  have : (⟨A⟩ : ByteArray).size = A.size := rfl
  unfold maxLen
  omega
theorem le47 (A : Array UInt8) (h : A.size ≤ 18) : 0 + (⟨A⟩ : ByteArray).size ≤ 140737488355328 := by
  have : (⟨A⟩ : ByteArray).size = A.size := rfl
  omega
theorem cut_size (A : Array UInt8) (h : A.size ≤ 18) (j : Nat) : ((⟨A⟩ : ByteArray).extract 0 j).size ≤ 18 := by
  have : (⟨A⟩ : ByteArray).size = A.size := rfl
  rw [ByteArray.size_extract]
  omega
theorem cut_max (A : Array UInt8) (h : A.size ≤ 18) (j : Nat) : 0 + ((⟨A⟩ : ByteArray).extract 0 j).size ≤ maxLen := by
  have := cut_size A h j
  unfold maxLen
  omega
theorem cut_47 (A : Array UInt8) (h : A.size ≤ 18) (j : Nat) : 0 + ((⟨A⟩ : ByteArray).extract 0 j).size ≤ 140737488355328 := by
  have := cut_size A h j
  omega
theorem cut_len (A : Array UInt8) (h : A.size ≤ 18) (j : Nat) : (((⟨A⟩ : ByteArray).extract 0 j).data.toList).length ≤ 1042 := by
  have := cut_size A h j
  have e : (((⟨A⟩ : ByteArray).extract 0 j).data.toList).length = ((⟨A⟩ : ByteArray).extract 0 j).size := by rw [Array.length_toList]; rfl
  omega
theorem str_below {w w1 : World} {o : Option Nat} (h : w.grownBy w1 o) (ho : o = none := by rfl) : Below w.heap.size w w1 := by
  subst ho
  exact below_of_grown h

/-- What such a value looks like. -/
theorem buf_shape {w : World} {B : Nat} {v : Value} {n : Nat} {xs : List Value} (h : w.ownsRow B 5 1 v n xs) : ∃ ao cap, v = .slice ao n cap ∧ (0 < n → ∃ g, ao = some ⟨g, 0, none⟩ ∧ B ≤ g) ∧ n ≤ cap := by
  rcases h.2 with ⟨rfl, rfl⟩ | ⟨g, cap, cur, rfl, hb, hg, hnc, hcm, hcs, htake⟩
  · exact ⟨none, 0, rfl, fun h => by omega, Nat.le_refl _⟩
  · exact ⟨some ⟨g, 0, none⟩, cap, rfl, fun _ => ⟨g, rfl, hb⟩, hnc⟩

theorem buf_cell {w : World} {B g n cap : Nat} {l : List UInt8} (h : w.ownsRow B 5 1 (.slice (some ⟨g, 0, none⟩) n cap) n (l.map bv)) {j : Nat} (hj : j < n) : ∃ y : Int, w.cell? ⟨g, j, none⟩ = some (.int .u8 y) ∧ w.frozen? ⟨g, j, none⟩ = false := by
  have hl : l.length = n := by have := h.1; simpa using this
  refine ⟨(l[j].toNat : Int), ?_, h.frozenAt j⟩
  rw [h.cellAt j (by omega), List.getElem?_map, List.getElem?_eq_getElem (by omega)]
  rfl

/-- A byte that an operation on bits gives. -/
theorem bits_bv (x y : Int) (op : BinOp) : ∃ b : UInt8, Value.int .u8 (bits op IntKind.u8 x y) = bv b := by
  have h := bounds_u8 (wf_bits op .u8 x y)
  refine ⟨UInt8.ofNat (bits op IntKind.u8 x y).toNat, ?_⟩
  unfold bv
  congr 1
  rw [UInt8.toNat_ofNat']
  omega

/-- 'buf[j] = ..': its own bytes still. -/
theorem buf_store {w wc : World} {g n cap j : Nat} {l : List UInt8} (hb : Below w.heap.size w wc) (hge : w.heap.size ≤ g) (h : wc.ownsRow w.heap.size 5 1 (.slice (some ⟨g, 0, none⟩) n cap) n (l.map bv)) (hl : l.length = n) (hn : n ≤ 1042) (x : Int) :
    Buf w (.slice (some ⟨g, 0, none⟩) n cap) (wc.setCell ⟨g, j, none⟩ (.int .u8 (bits BinOp.xor IntKind.u8 x 1))) := by
  obtain ⟨b, hb2⟩ := bits_bv x 1 BinOp.xor
  rw [hb2]
  refine ⟨⟨l.set j b, by simp; omega, ?_⟩, hb.setCell hge _⟩
  have := (h.stored j (bv b)).1
  rw [List.length_set, hl, List.map_set]
  exact this


/-! ### The call of readMagic, and what follows it -/

theorem take_bv (l : List UInt8) (k : Nat) : (l.map bv).take k = (l.take k).map bv := by rw [List.map_take]

/-- The reader as the law lays it. -/
def reader (v : Value) : Obj := .cells #[v, .nilIface, .int .i64 0, .slice none 0 0, .slice none 0 0] 36

theorem rd_new (wc : World) (v : Value) : Rd (wc.alloc (reader v)) wc.heap.size v .nilIface (.int .i64 0) (.slice none 0 0) (.slice none 0 0) := ⟨heap_alloc_new wc _⟩

/-- The bytes in memory, in every later world. -/
theorem rowB_own {wc w' : World} {B p cap : Nat} {ao : Option Addr} {l T : List UInt8} (h : wc.ownsRow B 5 1 (.slice ao p cap) p (l.map bv)) (hT : T = l.take 18) (hk : ∀ b, b < wc.heap.size → w'.heap[b]? = wc.heap[b]?) (hs : wc.heap.size ≤ w'.heap.size) : RowB w' ao T := by
  have hl : l.length = p := by have := h.1; simpa using this
  constructor
  intro h0
  obtain ⟨ao', cap', he, hat, _⟩ := buf_shape h
  cases he
  have hTl : T.length ≤ l.length := by rw [hT]; simp; omega
  obtain ⟨g, rfl, _⟩ := hat (by omega)
  have hg := h.lt g rfl
  refine ⟨g, 0, rfl, by omega, fun i hi => ?_⟩
  have hil : i < l.length ∧ i < 18 := by rw [hT] at hi; simp at hi; omega
  rw [Nat.zero_add, World.cell?_of_block (w := wc) (hk g hg.2), h.cellAt i (by omega), List.getElem?_map, List.getElem?_eq_getElem hil.1]
  have e : T.getD i 0 = l[i] := by rw [hT]; simp [List.getD, hil.2, List.getElem?_eq_getElem hil.1]
  rw [e]
  rfl

theorem own_ao {w : World} {B p cap : Nat} {ao : Option Addr} {xs : List Value} (h : w.ownsRow B 5 1 (.slice ao p cap) p xs) : ao = none ∨ ∃ g, ao = some ⟨g, 0, none⟩ := by
  rcases h.2 with ⟨h1, _⟩ | ⟨g, _, _, h1, _⟩
  · cases h1; exact .inl rfl
  · cases h1; exact .inr ⟨g, rfl⟩

/-- 'string(p)'. -/
theorem conv_row {w : World} {ao : Option Addr} {T : List UInt8} (h : RowB w ao T) (hao : ao = none ∨ ∃ g, ao = some ⟨g, 0, none⟩) (cap : Nat) : (convert 31 9 (.slice ao T.length cap)).run Ybaf.prog w = .ok (.string ⟨T.toArray⟩) w := by
  rcases hao with rfl | ⟨g, rfl⟩
  · have : T = [] := by
      cases T with
      | nil => rfl
      | cons a t =>
        obtain ⟨b, off, he, _⟩ := h.lie (by simp)
        cases he
    subst this
    exact run_convert_bytes_nil (P := Ybaf.prog) w 31 5 Ybaf.underlying31 Ybaf.underlying5 0 cap 9 Ybaf.underlying9
  · refine run_convert_bytes_back (P := Ybaf.prog) w 31 9 5 ⟨g, 0, none⟩ cap T Ybaf.underlying31 Ybaf.underlying5 Ybaf.underlying9 ?_
    intro j hj
    obtain ⟨b, off, he, _, hc⟩ := h.lie (by omega)
    cases he
    rw [Addr.add_lit, hc j hj]
    simp [List.getD, List.getElem?_eq_getElem hj]

/-- 'buf[:m]'. -/
theorem slice_to {ao : Option Addr} {p cap m : Nat} (hao : ao = none ∨ ∃ g, ao = some ⟨g, 0, none⟩) (hm : m ≤ cap) (w : World) : (Instr.slice 31 (.slice ao p cap) none (some (.int .i64 m)) none).run Ybaf.prog w = .ok (.slice ao m cap) w := by
  rw [run_slice_h w 31 ao p cap (by kernel_rfl) .i64 m (by omega) (by omega)]
  have e : (sizeOf (Ybaf.prog.elem 31)).run Ybaf.prog w = .ok 1 w := by kernel_rfl
  rw [e]
  rcases hao with rfl | ⟨g, rfl⟩ <;> simp [Result.andThen, sliced, Addr.add_lit]

theorem read_of {wc : World} {B p cap : Nat} {ao : Option Addr} {l T : List UInt8} {q : Addr} (h : wc.ownsRow B 5 1 (.slice ao p cap) p (l.map bv)) (hp : p ≤ 1042) (hT : T = l.take 18) (h0 : 0 < wc.heap.size) (hE : wc.cell? ⟨0, 0, none⟩ = some (.iface 51 (.pointer (some q)))) :
    ∃ ev, Ev q ev ∧ Calls Ybaf.prog 48 #[.pointer (some ⟨wc.heap.size, 0, none⟩), .slice (some ⟨(wc.alloc (reader (.slice ao p cap))).heap.size, 0, none⟩) 18 18, .int .i64 0] ((wc.alloc (reader (.slice ao p cap))).alloc (.cells zeros18 5)) fun e w2 =>
      e = .returned (.tuple #[.int .i64 T.length, ev]) ∧ After ((wc.alloc (reader (.slice ao p cap))).alloc (.cells zeros18 5)) w2 wc.heap.size (wc.alloc (reader (.slice ao p cap))).heap.size (.slice ao p cap) .nilIface T := by
  have hl : l.length = p := by have := h.1; simpa using this
  obtain ⟨ao', cap', he, hat, hcap⟩ := buf_shape h
  cases he
  have b1 : Below wc.heap.size wc ((wc.alloc (reader (.slice ao p cap))).alloc (.cells zeros18 5)) := ((Below.refl wc.heap.size wc).alloc (Nat.le_refl _) _).alloc (by simp) _
  refine ⟨eofOr (.iface 51 (.pointer (some q))) p, ?_, ?_⟩
  · by_cases hn : p < 18
    · exact .inl (eofOr_short hn)
    · exact .inr (eofOr_long hn)
  · subst hT
    have hrow : RowB ((wc.alloc (reader (.slice ao p cap))).alloc (.cells zeros18 5)) ao l := by
      constructor
      intro h00
      obtain ⟨g, rfl, _⟩ := hat (by omega)
      have hg := h.lt g rfl
      refine ⟨g, 0, rfl, by simp; omega, fun i hi => ?_⟩
      rw [Nat.zero_add, b1.cell (p := ⟨g, i, none⟩) hg.2, h.cellAt i (by omega), List.getElem?_map, List.getElem?_eq_getElem hi]
      simp [List.getD, List.getElem?_eq_getElem hi, bv]
    have hrd : Rd ((wc.alloc (reader (.slice ao p cap))).alloc (.cells zeros18 5)) wc.heap.size (.slice ao l.length cap) .nilIface (.int .i64 0) (.slice none 0 0) (.slice none 0 0) := by rw [hl]; exact rd_alloc (rd_new wc _) _
    have := readAt_ok wc.heap.size (wc.alloc (reader (.slice ao p cap))).heap.size ao l cap (.iface 51 (.pointer (some q))) zeros18 _ hrd (by simp) h0 (by simp) (by rw [b1.cell (p := ⟨0, 0, none⟩) h0]; exact hE) (heap_alloc_new _ _) zeros18_size (by omega) (by omega) hrow
      (fun b off e => by
        rcases Nat.eq_zero_or_pos p with hp0 | hp0
        · rcases h.2 with ⟨h1, _⟩ | ⟨g, _, _, h1, _, hg, _⟩
          · cases h1; cases e
          · cases h1; cases e; have := lt_of_block hg; omega
        · obtain ⟨g, rfl, _⟩ := hat hp0
          cases e
          have := (h.lt b rfl).2
          omega)
    rw [hl] at this
    exact this

/-- What the law looks at behind readMagic. -/
theorem after_magic {w wc w4 : World} {p cap : Nat} {ao : Option Addr} {l T : List UInt8} (h : wc.ownsRow w.heap.size 5 1 (.slice ao p cap) p (l.map bv)) (hb : Below w.heap.size w wc) (hT : T = l.take 18) (hm : Magic (wc.alloc (reader (.slice ao p cap))) w4 wc.heap.size (.slice ao p cap) .nilIface) :
    RowB w4 ao T ∧ Below w.heap.size w w4 := by
  have hs := hm.keep.size
  simp at hs
  have hk : ∀ b, b < wc.heap.size → w4.heap[b]? = wc.heap[b]? := fun b hlt => by
    rw [hm.keep.block b (by simp; omega) (by omega)]
    exact Below.heap_alloc wc _ b hlt
  exact ⟨rowB_own h hT hk (by omega), hb.trans (⟨hm.keep.os, hm.keep.tape, hm.keep.output, by omega, fun k hk2 => hk k (by have := hb.size; omega)⟩)⟩

theorem hp_of (A : Array UInt8) (T : List UInt8) (b : Bool) (h : pre A.toList T = b) (w : World) : Calls Ybaf.prog 15 #[.string ⟨A⟩, .string ⟨T.toArray⟩] w fun e w' => e = .returned (.bool b) ∧ w = w' := by
  subst h
  exact hasPrefix_any ⟨A⟩ ⟨T.toArray⟩ w

theorem rowB_same {w w' : World} {a : Option Addr} {T : List UInt8} (h : RowB w a T) (hb : Below w.heap.size w w') : RowB w' a T := by
  constructor
  intro h0
  obtain ⟨b, off, rfl, hlt, hc⟩ := h.lie h0
  have := hb.size
  exact ⟨b, off, rfl, by omega, fun i hi => by rw [hb.cell (p := ⟨b, off + i, none⟩) hlt]; exact hc i hi⟩

theorem ip_of (A : Array UInt8) (hA : A.size ≤ 18) (ao : Option Addr) (T : List UInt8) (cap : Nat) (b : Bool) (h : pre A.toList T = b) (w : World) (hrow : RowB w ao T) : Calls Ybaf.prog 10 #[.string ⟨A⟩, .slice ao T.length cap] w fun e w' => e = .returned (.bool b) ∧ RowB w' ao T ∧ Below w.heap.size w w' := by
  subst h
  refine (isprefix_any ⟨A⟩ ao T cap w (by show A.size ≤ 1000000; omega) hrow).mono ?_
  rintro e w' ⟨rfl, hb, _⟩
  exact ⟨rfl, rowB_same hrow hb, hb⟩

theorem below_two {w a b : World} (h : Below w.heap.size w a) (k : Below a.heap.size a b) : Below w.heap.size w b := h.trans (k.mono h.size)

end Go.Proofs.YbulkekcFmt
