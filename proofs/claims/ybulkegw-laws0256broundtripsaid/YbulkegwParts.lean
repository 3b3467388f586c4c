/-
  Lemmas on worlds and rows that the walks want; no walk here.
-/
import Derived.Test.YbulkegwRows
import Derived.Test.YbulkegwPlain
import Derived.WalkKit
import Derived.WalkSpells
import Derived.WalkLawsBesides
namespace Go.Proofs.Ybulkegw
open Go.RowKit

/-- A byte, a string, as a cell. -/
def bv (b : UInt8) : Value := .int .u8 (b.toNat : Int)
def sv (l : List UInt8) : Value := .string ⟨l.toArray⟩

theorem info5 : (Yba.prog.info? 5).map (fun i => (i.zero, i.size, i.bytes)) = some (some (.int .u8 0), 1, 1) := by kernel_rfl
theorem info9 : (Yba.prog.info? 9).map (fun i => (i.zero, i.size, i.bytes)) = some (some (.string ⟨#[]⟩), 1, 16) := by kernel_rfl
theorem cells5 : Yba.prog.cellsOf 5 = 1 := by kernel_rfl

theorem bv_one (l : List UInt8) : ∀ u ∈ l.map bv, u.oneCell' = true := by
  intro u hu
  obtain ⟨_, _, rfl⟩ := List.mem_map.1 hu
  rfl

/-- 'string(b)', b a row of bytes that the call owns. -/
theorem conv_own {w : World} {B : Nat} {u : Value} {n : Nat} {l : List UInt8} (h : w.ownsRow B 5 1 u n (l.map bv)) :
    (convert 23 9 u).run Yba.prog w = .ok (sv l) w := by
  have hl : l.length = n := by simpa using h.1
  rcases h.2 with ⟨rfl, hn⟩ | ⟨g, cap, cur, rfl, hb, hg, _, _, _, htake⟩
  · have : l = [] := List.eq_nil_of_length_eq_zero (by omega)
    subst this
    exact run_convert_bytes_nil (P := Yba.prog) w 23 5 Yba.underlying23 Yba.underlying5 0 0 9 Yba.underlying9
  · subst hl
    refine run_convert_bytes_back (P := Yba.prog) w 23 9 5 ⟨g, 0, none⟩ cap l Yba.underlying23 Yba.underlying5 Yba.underlying9 ?_
    intro j hj
    have := h.cells (g := g) rfl j (bv l[j]) (by simp [List.getElem?_eq_getElem hj])
    exact this

/-- 'b = b[:0]', b such a row: it owns nothing, and its array still. -/
theorem cut_own {w : World} {B : Nat} {u : Value} {n : Nat} {xs : List Value} (h : w.ownsRow B 5 1 u n xs) :
    ∃ u0, (∀ w', (Instr.slice 23 u none (some (.int .i64 0)) none).run Yba.prog w' = .ok u0 w') ∧ w.ownsRow B 5 1 u0 0 [] ∧ u0.ownBlock = u.ownBlock := by
  rcases h.2 with ⟨rfl, hn⟩ | ⟨g, cap, cur, rfl, hb, hg, hnc, hcm, hcs, htake⟩
  · exact ⟨.slice none 0 0, fun w' => by kernel_rfl, World.ownsRow_nil _ _ _ _, rfl⟩
  · refine ⟨.slice (some ⟨g, 0, none⟩) 0 cap, fun w' => ?_, ⟨by simp, .inr ⟨g, cap, cur, rfl, hb, hg, Nat.zero_le _, hcm, hcs, by simp⟩⟩, rfl⟩
    rw [run_slice_h w' 23 (some ⟨g, 0, none⟩) n cap (by kernel_rfl) .i64 0 (by omega) (by omega)]
    have e : (sizeOf (Yba.prog.elem 23)).run Yba.prog w' = .ok 1 w' := by kernel_rfl
    rw [e]
    simp [Result.andThen, sliced, Addr.add]

/-- A row of strings and a row of bytes are two rows. -/
theorem own_apart {w : World} {B : Nat} {v u : Value} {n m : Nat} {xs ys : List Value} (h : w.ownsRow B 9 1 v n xs) (k : w.ownsRow B 5 1 u m ys) :
    (u.ownBlock = none ∨ u.ownBlock ≠ v.ownBlock) ∧ (v.ownBlock = none ∨ v.ownBlock ≠ u.ownBlock) := by
  rcases h.2 with ⟨rfl, hn⟩ | ⟨g, cap, cur, rfl, hb, hg, _⟩
  · rcases k.2 with ⟨rfl, km⟩ | ⟨g', cap', cur', rfl, kb, kg, _⟩ <;> simp [Value.ownBlock]
  · rcases k.2 with ⟨rfl, km⟩ | ⟨g', cap', cur', rfl, kb, kg, _⟩
    · simp [Value.ownBlock]
    · have hne : g' ≠ g := by
        rintro rfl
        rw [hg] at kg
        simp at kg
      simp only [Value.ownBlock, Option.some.injEq, ne_eq, reduceCtorEq, false_or]
      exact ⟨hne, fun e => hne e.symm⟩

/-- What is owned stays owned in every later world that keeps the blocks. -/
theorem own_below {w w' : World} {B C : Nat} {e : TypeId} {size : Nat} {v : Value} {n : Nat} {xs : List Value} (h : w.ownsRow B e size v n xs) (hb : Below C w w') (hC : w.heap.size ≤ C) : w'.ownsRow B e size v n xs := by
  refine ⟨h.1, ?_⟩
  rcases h.2 with hn | ⟨g, cap, cur, rfl, hb', hg, rest⟩
  · exact .inl hn
  · exact .inr ⟨g, cap, cur, rfl, hb', by rw [hb.block g (by have := lt_of_block hg; omega)]; exact hg, rest⟩


/-! ### splitWords: what holds at a round's head -/

structure Inv (w : World) (s : ByteArray) (k : Nat) (v u : Value) (S : St) (wr : World) : Prop where
  run : runSt (s.data.toList.take k) = S
  wlen : S.words.length ≤ k
  blen : S.word.length ≤ k
  own : wr.ownsRow w.heap.size 9 1 v S.words.length (S.words.map sv)
  byt : wr.ownsRow w.heap.size 5 1 u S.word.length (S.word.map bv)
  below : Below w.heap.size w wr

theorem take_snoc (s : ByteArray) (k : Nat) (h : k < s.size) : s.data.toList.take (k + 1) = s.data.toList.take k ++ [s[k]] := by
  rw [List.take_succ_eq_append_getElem (by simpa using h)]; rfl

theorem inv_run {w : World} {s : ByteArray} {k : Nat} {v u : Value} {S : St} {wr : World} (h : Inv w s k v u S wr) (hk : k < s.size) {S' : St} (hS : step S s[k] = S') : runSt (s.data.toList.take (k + 1)) = S' := by
  rw [take_snoc s k hk, runSt_snoc, h.run, hS]

theorem inv_start (w : World) (s : ByteArray) : Inv w s 0 (.slice none 0 0) (.slice none 0 0) st0 w :=
  ⟨rfl, Nat.le_refl _, Nat.le_refl _, World.ownsRow_nil _ _ _ _, World.ownsRow_nil _ _ _ _, Below.refl _ _⟩

/-- A round that writes no memory. -/
theorem inv_same {w : World} {s : ByteArray} {k : Nat} {v u : Value} {S : St} {wr : World} (h : Inv w s k v u S wr) (hk : k < s.size) {S' : St} (hS : step S s[k] = S') (hw : S'.words = S.words) (hb : S'.word = S.word) : Inv w s (k + 1) v u S' wr :=
  ⟨inv_run h hk hS, by rw [hw]; have := h.wlen; omega, by rw [hb]; have := h.blen; omega, by rw [hw]; exact h.own, by rw [hb]; exact h.byt, h.below⟩

/-- 'word = append(word, c)'. -/
theorem inv_push {w : World} {s : ByteArray} {k : Nat} {v u : Value} {S : St} {wr : World} (h : Inv w s k v u S wr) (hk : k < s.size) {S' : St} (hS : step S s[k] = S') (hw : S'.words = S.words) (hb : S'.word = S.word ++ [s[k]])
    {o : Obj} {w1 : World} {u' : Value} (hown : w1.ownsRow w.heap.size 5 1 u' (S.word.length + 1) (S.word.map bv ++ [.int .u8 (s[k].toNat : Int)])) (hg : (wr.alloc o).grownBy w1 u.ownBlock) : Inv w s (k + 1) v u' S' w1 := by
  refine ⟨inv_run h hk hS, by rw [hw]; have := h.wlen; omega, by rw [hb]; have := h.blen; simp; omega, ?_, ?_, ?_⟩
  · rw [hw]
    exact (h.own.alloc o).kept hg (own_apart h.own h.byt).2
  · rw [hb]
    simpa [bv] using hown
  · refine (h.below.alloc h.below.size o).grown hg (by have := h.below.size; simp; omega) ?_
    intro g hgb
    exact (h.byt.lt g hgb).1

/-- 'words = append(words, string(word)); word = word[:0]'. -/
theorem inv_flush {w : World} {s : ByteArray} {k : Nat} {v u : Value} {S : St} {wr : World} (h : Inv w s k v u S wr) (hk : k < s.size) {S' : St} (hS : step S s[k] = S') (hw : S'.words = S.words ++ [S.word]) (hb : S'.word = [])
    {o : Obj} {w1 : World} {v' u0 : Value} (hown : w1.ownsRow w.heap.size 9 1 v' (S.words.length + 1) (S.words.map sv ++ [sv S.word])) (hg : (wr.alloc o).grownBy w1 v.ownBlock)
    (hu : wr.ownsRow w.heap.size 5 1 u0 0 []) (hub : u0.ownBlock = u.ownBlock) : Inv w s (k + 1) v' u0 S' w1 := by
  refine ⟨inv_run h hk hS, by rw [hw]; have := h.wlen; simp; omega, by rw [hb]; simp, ?_, ?_, ?_⟩
  · rw [hw]
    simpa using hown
  · rw [hb]
    exact (hu.alloc o).kept hg (by rw [hub]; exact (own_apart h.own h.byt).1)
  · refine (h.below.alloc h.below.size o).grown hg (by have := h.below.size; simp; omega) ?_
    intro g hgb
    exact (h.own.lt g hgb).1

end Go.Proofs.Ybulkegw
