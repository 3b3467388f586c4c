/-
  A row of bytes that the call owns and that may bear the run-time's mark behind its last cell (what a conversion of a string to bytes lays): appends to it, and its way back to a string. No walk here.
-/
import Derived.Test.YbulkegwParts
import Derived.Lib.AppendStr
namespace Go.Proofs.Ybulkegw
open Go.RowKit

/-- The slice value v owns the bytes l: its row lies from block B on, and no cell of it is frozen. -/
def ownsB (w : World) (B : Nat) (v : Value) (l : List UInt8) : Prop :=
  ∃ g cap cur fz, v = .slice (some ⟨g, 0, none⟩) l.length cap ∧ B ≤ g ∧ w.heap[g]? = some (.cells cur 5 fz) ∧ (fz = (0, 0) ∨ cap ≤ fz.1) ∧ l.length ≤ cap ∧ cap ≤ maxLen ∧ cur.size = cap ∧ cur.toList.take l.length = l.map bv

theorem ownsB_below {w w' : World} {B C : Nat} {v : Value} {l : List UInt8} (h : ownsB w B v l) (hb : Below C w w') (hC : w.heap.size ≤ C) : ownsB w' B v l := by
  obtain ⟨g, cap, cur, fz, hv, hB, hg, rest⟩ := h
  exact ⟨g, cap, cur, fz, hv, hB, by rw [hb.block g (by have := lt_of_block hg; omega)]; exact hg, rest⟩

theorem ownsB_alloc {w : World} {B : Nat} {v : Value} {l : List UInt8} (h : ownsB w B v l) (o : Obj) : ownsB (w.alloc o) B v l :=
  ownsB_below h ((Below.refl w.heap.size w).alloc (Nat.le_refl _) o) (Nat.le_refl _)

theorem ownsB_cells {w : World} {g : Nat} {l : List UInt8} {cur : Array Value} {fz : Nat × Nat} (hg : w.heap[g]? = some (.cells cur 5 fz)) (ht : cur.toList.take l.length = l.map bv) :
    ∀ j u, (l.map bv)[j]? = some u → w.cell? ((⟨g, 0, none⟩ : Addr).add j) = some u := by
  intro j u hu
  rw [Addr.add_lit, Nat.zero_add, cell_of_row w g j cur 5 fz hg]
  rw [← ht, List.getElem?_take] at hu
  split at hu
  · simpa using hu
  · cases hu

/-- 'string(b)'. -/
theorem conv_ownB {w : World} {B : Nat} {v : Value} {l : List UInt8} (h : ownsB w B v l) : (convert 23 9 v).run Yba.prog w = .ok (.string ⟨l.toArray⟩) w := by
  obtain ⟨g, cap, cur, fz, rfl, hB, hg, hfz, hn, hm, hcs, ht⟩ := h
  refine run_convert_bytes_back (P := Yba.prog) w 23 9 5 ⟨g, 0, none⟩ cap l Yba.underlying23 Yba.underlying5 Yba.underlying9 ?_
  intro j hj
  exact ownsB_cells hg ht j (bv l[j]) (by simp [List.getElem?_eq_getElem hj])

/-- '[]byte(s)'. -/
theorem conv_bytes (w : World) (s : ByteArray) (hs : s.size ≤ maxLen) : ∃ v w', (convert 9 23 (.string s)).run Yba.prog w = .ok v w' ∧ ownsB w' w.heap.size v s.data.toList ∧ Below w.heap.size w w' := by
  have hl : s.data.toList.length = s.size := by simp
  refine ⟨_, _, run_bytes_of_string (P := Yba.prog) w 9 23 5 s Yba.underlying9 Yba.underlying23 Yba.underlying5, ?_, ?_⟩
  · have hge := grownCap_ge w s.size 0 5
    have hm := grownCap_le_maxLen w s.size 0 5 hs
    have hsz : (bytesRow s (grownCap w s.size 0 5)).size = grownCap w s.size 0 5 := by
      simp only [bytesRow, Array.size_append, Array.size_map, Array.size_replicate]
      have : s.data.size = s.size := rfl
      omega
    refine ⟨w.heap.size, grownCap w s.size 0 5, bytesRow s (grownCap w s.size 0 5), _, by rw [hl], Nat.le_refl _, heap_alloc_new w.drew _, .inr (by rw [hsz]; exact Nat.le_refl _), by omega, hm, hsz, ?_⟩
    simp only [bytesRow, Array.toList_append, Array.toList_map]
    rw [List.take_append_of_le_length (by simp), List.take_of_length_le (by simp)]
    rfl
  · exact (Below.refl _ _).drew.alloc (Nat.le_refl _) _

/-- Cells stored into such a row. -/
theorem store_row (P : Program) (g o : Nat) (fz : Nat × Nat) : ∀ (vs : List Value) (i : Nat) (cur : Array Value) (w : World), w.heap[g]? = some (.cells cur 5 fz) → (fz = (0, 0) ∨ cur.size ≤ fz.1) → o + i + vs.length ≤ cur.size → (∀ v ∈ vs, v.oneCell' = true) →
    (storeCells ⟨g, o, none⟩ vs i).run P w = .ok () (w.setRow g (cur.toList.take (o + i) ++ vs ++ cur.toList.drop (o + i + vs.length)).toArray)
  | [], i, cur, w, hg, _, _, _ => by
    simp only [storeCells, List.append_nil, List.length_nil, Nat.add_zero, List.take_append_drop, Array.toArray_toList]
    rw [setRow_self w g cur 5 fz hg]
    rfl
  | v :: rest, i, cur, w, hg, hfz, hl, h1 => by
    have hi : o + i < cur.size := by simp at hl; omega
    have hadd : (⟨g, o, none⟩ : Addr).add i = ⟨g, o + i, none⟩ := Addr.add_lit ..
    have hcell : w.cell? ⟨g, o + i, none⟩ = some cur[o + i] := by simp [World.cell?, hg, hi]
    have hfro : w.frozen? ⟨g, o + i, none⟩ = false := by
      obtain ⟨lo, hi'⟩ := fz
      simp only [World.frozen?, hg, Bool.and_eq_false_iff, decide_eq_false_iff_not]
      rcases hfz with h | h
      · simp only [Prod.mk.injEq] at h; omega
      · simp only at h; omega
    have hst : (store ((⟨g, o, none⟩ : Addr).add i) v).run P w = .ok () (w.setRow g (cur.setIfInBounds (o + i) v)) := by
      rw [hadd, run_store P w _ v _ (h1 v (by simp)), hcell]
      simp [hfro, setCell_eq_setRow w g (o + i) cur 5 fz v hg]
    have ih := store_row P g o fz rest (i + 1) (cur.setIfInBounds (o + i) v) (w.setRow g (cur.setIfInBounds (o + i) v)) (setRow_heap w g cur _ 5 _ hg) (by simpa using hfz) (by simp at hl ⊢; omega) (fun x hx => h1 x (by simp [hx]))
    simp only [storeCells, Sem.run_bind, hst, Result.andThen_ok, ih, setRow_setRow]
    congr 3
    have e := list_seg_step cur.toList (o + i) v rest (by simp at hl ⊢; omega)
    simpa [Array.toList_setIfInBounds, Nat.add_assoc] using e

/-- What the arm with room leaves. -/
theorem room_ownsB {w : World} {B g cap : Nat} {l news : List UInt8} {cur : Array Value} {fz : Nat × Nat} (hB : B ≤ g) (hg : w.heap[g]? = some (.cells cur 5 fz)) (hfz : fz = (0, 0) ∨ cap ≤ fz.1) (hm : cap ≤ maxLen) (hcs : cur.size = cap) (ht : cur.toList.take l.length = l.map bv) (hroom : l.length + news.length ≤ cap) :
    ownsB (w.setRow g (cur.toList.take l.length ++ news.map bv ++ cur.toList.drop (l.length + news.length)).toArray) B (.slice (some ⟨g, 0, none⟩) (l.length + news.length) cap) (l ++ news) ∧
      Below B w (w.setRow g (cur.toList.take l.length ++ news.map bv ++ cur.toList.drop (l.length + news.length)).toArray) := by
  refine ⟨⟨g, cap, _, fz, by rw [List.length_append], hB, setRow_heap w g cur _ 5 _ hg, hfz, by simpa using hroom, hm, ?_, ?_⟩, ⟨rfl, rfl, rfl, by simp, fun k hk => setRow_other w g k _ (by omega)⟩⟩
  · simp only [List.size_toArray, List.length_append, List.length_take, List.length_drop, Array.length_toList, List.length_map]
    omega
  · show List.take (l ++ news).length _ = (l ++ news).map bv
    rw [ht, ← List.map_append]
    have : (l ++ news).length = ((l ++ news).map bv).length := by simp
    rw [this]
    exact List.take_left

/-- What the arm that grows leaves. -/
theorem grow_ownsB {w : World} {B old : Nat} {l news : List UInt8} (hB : B ≤ w.heap.size) (h63 : l.length + news.length ≤ maxLen) :
    ownsB (w.drew.alloc (.cells ((l.map bv).toArray ++ (news.map bv).toArray ++ Builtin.zeroCells (Value.int .u8 0).cells (grownCap w (l.length + news.length) old 5 - (l.length + news.length))) 5)) B
        (.slice (some ⟨w.heap.size, 0, none⟩) (l.length + news.length) (grownCap w (l.length + news.length) old 5)) (l ++ news) ∧
      Below B w (w.drew.alloc (.cells ((l.map bv).toArray ++ (news.map bv).toArray ++ Builtin.zeroCells (Value.int .u8 0).cells (grownCap w (l.length + news.length) old 5 - (l.length + news.length))) 5)) := by
  have hge := grownCap_ge w (l.length + news.length) old 5
  have hm := grownCap_le_maxLen w (l.length + news.length) old 5 h63
  refine ⟨⟨w.heap.size, _, _, (0, 0), by rw [List.length_append], hB, heap_alloc_new w.drew _, .inl rfl, by simpa using hge, hm, ?_, ?_⟩, (Below.refl _ _).drew.alloc hB _⟩
  · have hz1 : (Value.int IntKind.u8 0).cells.size = 1 := rfl
    simp only [Array.size_append, List.size_toArray, size_zeroCells, hz1, List.length_map]
    omega
  · simp only [Array.toList_append]
    rw [← List.map_append]
    have : (l ++ news).length = ((l ++ news).map bv).length := by simp
    rw [this]
    exact List.take_left

/-- 'append(b, c..)' : the source a slice whose cells are known. -/
theorem run_appendB {w : World} {B : Nat} {v : Value} {l news : List UInt8} (h : ownsB w B v l) (hB : B ≤ w.heap.size) (ty : TypeId) (ad : Addr) (c : Nat) (hnews : ∀ j u, (news.map bv)[j]? = some u → w.cell? (ad.add j) = some u) (hb : l.length + news.length ≤ 100000000) :
    ∃ v' w', (Builtin.append_ #[23, 23] ty #[v, .slice (some ad) news.length c]).run Yba.prog w = .ok v' w' ∧ ownsB w' B v' (l ++ news) ∧ Below B w w' := by
  obtain ⟨i5, h5a, h5b, h5c, h5d⟩ := info_parts info5
  obtain ⟨g, cap, cur, fz, rfl, hBg, hg, hfz, hn, hm, hcs, ht⟩ := h
  by_cases hroom : l.length + news.length ≤ cap
  · have hf := run_firstCells_some (P := Yba.prog) w i5.size news.length ad news.length c (news.map bv) (by rw [h5c]; simp) hnews
    have hst := store_row Yba.prog g (l.length * i5.size) fz (news.map bv) 0 cur w hg (by rw [hcs]; exact hfz) (by rw [h5c]; simp; omega) (bv_one news)
    have hr : (Builtin.append_ #[23, 23] ty #[.slice (some ⟨g, 0, none⟩) l.length cap, .slice (some ad) news.length c]).run Yba.prog w =
        .ok (.slice (some ⟨g, 0, none⟩) (l.length + news.length) cap) (w.setRow g (cur.toList.take l.length ++ news.map bv ++ cur.toList.drop (l.length + news.length)).toArray) := by
      simp only [Nat.add_zero, h5c, Nat.mul_one, List.length_map] at hst
      rw [h5c] at hf
      simp [Builtin.append_, run_underlying Yba.underlying23, sizeOf, typeInfo, h5a, h5c, Builtin.lenOf, hroom, hf, Addr.add_lit, hst]
    exact ⟨_, _, hr, room_ownsB hBg hg hfz hm hcs ht hroom⟩
  · have hr := run_append_grow (P := Yba.prog) w 23 ty 5 i5 (.int .u8 0) Yba.underlying23 h5a h5b ⟨g, 0, none⟩ l.length cap (l.map bv) (by rw [h5c]; simp) (ownsB_cells hg ht) ad news.length c (news.map bv) (by rw [h5c]; simp) hnews (by omega) (by omega) (by rw [h5d]; exact growslice_fits (by omega) (by omega))
    exact ⟨_, _, hr, grow_ownsB hB (by unfold maxLen; omega)⟩

/-- 'append(b, s...)', s a string. -/
theorem run_appendS {w : World} {B : Nat} {v : Value} {l : List UInt8} (h : ownsB w B v l) (hB : B ≤ w.heap.size) (ty : TypeId) (s : ByteArray) (hb : l.length + s.size ≤ 100000000) :
    ∃ v' w', (Builtin.append_ #[23, 9] ty #[v, .string s]).run Yba.prog w = .ok v' w' ∧ ownsB w' B v' (l ++ s.data.toList) ∧ Below B w w' := by
  obtain ⟨i5, h5a, h5b, h5c, h5d⟩ := info_parts info5
  obtain ⟨g, cap, cur, fz, rfl, hBg, hg, hfz, hn, hm, hcs, ht⟩ := h
  have hsl : s.data.toList.length = s.size := by simp
  have hsc : Lib.strCells s = s.data.toList.map bv := rfl
  by_cases hroom : l.length + s.size ≤ cap
  · have hf := Lib.run_firstCells_string (P := Yba.prog) w 1 s
    have hst := store_row Yba.prog g l.length fz (s.data.toList.map bv) 0 cur w hg (by rw [hcs]; exact hfz) (by simp; omega) (bv_one _)
    have hr : (Builtin.append_ #[23, 9] ty #[.slice (some ⟨g, 0, none⟩) l.length cap, .string s]).run Yba.prog w =
        .ok (.slice (some ⟨g, 0, none⟩) (l.length + s.data.toList.length) cap) (w.setRow g (cur.toList.take l.length ++ s.data.toList.map bv ++ cur.toList.drop (l.length + s.data.toList.length)).toArray) := by
      simp only [Nat.add_zero, List.length_map] at hst
      rw [hsc] at hf
      rw [hsl] at hst ⊢
      simp [Builtin.append_, run_underlying Yba.underlying23, run_underlying Yba.underlying9, sizeOf, typeInfo, h5a, h5c, Builtin.lenOf, hroom, hf, Addr.add_lit]
      simp [hst]
    exact ⟨_, _, hr, room_ownsB hBg hg hfz hm hcs ht (by rw [hsl]; exact hroom)⟩
  · have hr := Lib.run_append_grow_string (P := Yba.prog) w 23 9 ty 5 i5 (.int .u8 0) Yba.underlying23 Yba.underlying9 h5a h5b ⟨g, 0, none⟩ l.length cap (l.map bv) (by rw [h5c]; simp) (ownsB_cells hg ht) s (by omega) (by omega) (by rw [h5d]; exact growslice_fits (by omega) (by omega))
    rw [hsc] at hr
    have := grow_ownsB (w := w) (B := B) (old := cap) (l := l) (news := s.data.toList) hB (by rw [hsl]; unfold maxLen; omega)
    rw [hsl] at this
    exact ⟨_, _, hr, this⟩

/-- At the operation, for the walk. -/
theorem wpB_one (w : World) {ops : Array Oper} {rest : List Oper} {o : Oper} {a : Act} {Q : Exit → Act → World → Prop} (hgd : o.guard = none) (s x : Operand)
    (ho : o.op = .call { callee := .builtin .append, args := #[s, x], argTypes := #[23, 23] })
    (B : Nat) (v : Value) (l : List UInt8) (c : UInt8) (hs : a.eval s = v) (hown : ownsB w B v l) (hB : B ≤ w.heap.size) (ad : Addr) (cp : Nat) (hx : a.eval x = .slice (some ad) 1 cp)
    (hnews : ∀ j u, [bv c][j]? = some u → w.cell? (ad.add j) = some u) (hb : l.length + 1 ≤ 100000000)
    (h : ∀ v' w', ownsB w' B v' (l ++ [c]) → Below B w w' → wpList Yba.prog ops Q rest (a.put o.dst v') w') : wpList Yba.prog ops Q (o :: rest) a w := by
  refine wpList_plain hgd fun K hK => ?_
  obtain ⟨v', w', hr, h2, h3⟩ := run_appendB (news := [c]) hown hB o.type ad cp hnews hb
  unfold Oper.wp execOp
  simp only [List.length_cons, List.length_nil, Nat.zero_add] at hr
  simp only [ho, resolve, invoke, builtin, Sem.run_bind, Sem.run_pure, Result.andThen_ok, List.map_toArray, List.map_cons, List.map_nil, hs, hx, hr]
  exact hK _ _ (h v' w' h2 h3)

theorem wpB_str (w : World) {ops : Array Oper} {rest : List Oper} {o : Oper} {a : Act} {Q : Exit → Act → World → Prop} (hgd : o.guard = none) (sl x : Operand)
    (ho : o.op = .call { callee := .builtin .append, args := #[sl, x], argTypes := #[23, 9] })
    (B : Nat) (v : Value) (l : List UInt8) (s : ByteArray) (hs : a.eval sl = v) (hown : ownsB w B v l) (hB : B ≤ w.heap.size) (hx : a.eval x = .string s) (hb : l.length + s.size ≤ 100000000)
    (h : ∀ v' w', ownsB w' B v' (l ++ s.data.toList) → Below B w w' → wpList Yba.prog ops Q rest (a.put o.dst v') w') : wpList Yba.prog ops Q (o :: rest) a w := by
  refine wpList_plain hgd fun K hK => ?_
  obtain ⟨v', w', hr, h2, h3⟩ := run_appendS hown hB o.type s hb
  unfold Oper.wp execOp
  simp only [ho, resolve, invoke, builtin, Sem.run_bind, Sem.run_pure, Result.andThen_ok, List.map_toArray, List.map_cons, List.map_nil, hs, hx, hr]
  exact hK _ _ (h v' w' h2 h3)

end Go.Proofs.Ybulkegw
