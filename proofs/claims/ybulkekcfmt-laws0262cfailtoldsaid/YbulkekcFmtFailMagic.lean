/-
  readMagic OVER A READER THAT FAILS WITH AN error OF errors.New's MAKE: 0, and a *fmt.wrapError that holds that error.
-/
import Derived.Test.YbulkekcFmtReadMagic
import Derived.Test.YbulkekcFmtWrap
import Derived.Test.YbulkekcFmtLaid
namespace Go.Proofs.YbulkekcFmt
open Go.RowKit

/-- A listed sentinel's variable, and the block of its text: of whatever program. -/
theorem sentinel_row {P : Program} {n nm : String} {text : List UInt8} {r : List (String × DataW Unit)} {W : World} {g : Nat} {ti tp te ts : TypeId} {ms : Array (String × TypeId)} {f : Field}
    (h : laidMet P ((n, .iface nm (.ptr (.agg [.lit (.string text)]))) :: r) W)
    (hg : P.globalNamed n = some g) (ht : (P.globals[g]?).map (·.type) = some ti) (hi : P.underlying ti = some (.interface ms)) (hrow : ∀ u, P.typeName? 3 u = some nm → u = tp)
    (hp : P.underlying tp = some (.pointer te)) (he : P.underlying te = some (.struct #[f])) (hft : f.type = ts) (hfo : f.offset = 0) (hs : P.underlying ts = some .string) (hc : P.cellsOf te = 1) (hcs : P.cellsOf ts = 1) :
    ∃ (a : Addr) (ca : Array Value) (ta : TypeId), W.cell? ⟨g, 0, none⟩ = some (.iface tp (.pointer (some a))) ∧ W.heap[a.block]? = some (.cells ca ta (0, 0)) := by
  obtain ⟨ps, ⟨g0, t0, cs0, f0, p0, q0, hg0, ht0, hv0, hd0, _, e0⟩, _, hrows⟩ := h
  obtain rfl := Option.some.inj (hg.symm.trans hg0)
  obtain rfl := Option.some.inj (ht.symm.trans ht0)
  subst e0
  obtain ⟨l0⟩ := cs0
  have ok0 : ∀ u v, l0 = [.iface u v] → Value.okWide P W .any 0 u v := fun u v e => by
    subst e
    exact (hrows g 0 (by simp [MemPlace.row])).2 u v (by simpa using World.var?_cell hg0 hv0 0)
  obtain ⟨a0, s0, rfl, hc0, hs0, hz0, rfl⟩ := errorString_of_trod hi hrow hp he hft hfo hs hc hcs hd0 ok0
  obtain ⟨c0, t0, hb0⟩ := (hrows a0.block a0.off (by simp [MemPlace.row])).1
  exact ⟨a0, c0, t0, by simpa using World.var?_cell hg0 hv0 0, hb0⟩

/-- io.EOF, and the block of its text. -/
theorem eofRow_of_laid {W : World} (h : laidMetH Ybaf.prog theLaid W) : ∃ (q : Addr) (cq : Array Value) (tq : TypeId), W.cell? ⟨0, 0, none⟩ = some (.iface 51 (.pointer (some q))) ∧ W.heap[q.block]? = some (.cells cq tq (0, 0)) :=
  sentinel_row (g := 0) (ti := 25) (te := 53) (ts := 9) (laid_parts h).1 eofG (by kernel_rfl) Ybaf.underlying25 row51 under51 Ybaf.underlying53 rfl rfl Ybaf.underlying9 (by kernel_rfl) (by kernel_rfl)

theorem neq51 (b q : Addr) (cb cq : Array Value) (tb tq : TypeId) (w : World) (hne : b ≠ q) (hb : w.heap[b.block]? = some (.cells cb tb (0, 0))) (hq : w.heap[q.block]? = some (.cells cq tq (0, 0))) : (binOp .neq 25 (.iface 51 (.pointer (some b))) (.iface 51 (.pointer (some q)))).run Ybaf.prog w = .ok (.bool true) w := by
  obtain ⟨i, hi, h2⟩ := Option.map_eq_some_iff.1 info51
  obtain ⟨i3, h3a, h3b⟩ := Option.map_eq_some_iff.1 (show (Ybaf.prog.info? 53).map (fun i => i.size) = some 1 by kernel_rfl)
  have h := run_equalIn_iface_ptr_other (P := Ybaf.prog) w 9998 Ybaf.underlying25 under51 hi h2 h3a (by rw [h3b]; decide) hne hb hq
  simp only [binOp]
  simp [Op.equal, Op.maxDepth, h]

/-- What readMagic leaves: the reader read once, the error wrapped. -/
structure Failed (w w' : World) (R : Nat) (v : Value) (b N : Nat) : Prop where
  magic : Magic w w' R v (.iface 51 (.pointer (some ⟨b, 0, none⟩)))
  held : w'.cell? ⟨N, 1, none⟩ = some (.iface 51 (.pointer (some ⟨b, 0, none⟩)))

theorem magic_over {w w2 w3 : World} {R : Nat} {v f : Value} (h : Magic w w2 R v f) (b2 : Below w2.heap.size w2 w3) : Magic w w3 R v f := by
  obtain ⟨g3, c3, g4, c4, hr, h3, h4⟩ := h.rd
  refine ⟨⟨g3, c3, g4, c4, rd_below hr b2 (rd_lt hr), ?_, ?_⟩, h.keep.trans (keep_below b2)⟩
  · rw [b2.cell (p := ⟨g3, 0, none⟩) (World.block_lt_of_cell? w2 _ h3)]; exact h3
  · rw [b2.cell (p := ⟨g4, 0, none⟩) (World.block_lt_of_cell? w2 _ h4)]; exact h4

set_option maxRecDepth 4000 in
set_option maxHeartbeats 1000000 in
theorem magic_fail (R : Nat) (v : Value) (b : Nat) (t : ByteArray) (q : Addr) (cq : Array Value) (tq : TypeId) (w : World) (hR0 : 1 < R) (hE : w.cell? ⟨0, 0, none⟩ = some (.iface 51 (.pointer (some q)))) (hg : w.cell? ⟨1, 0, none⟩ = some (.iface 67 (.agg #[.pointer (some ⟨2, 25, none⟩)])))
    (hq : w.heap[q.block]? = some (.cells cq tq (0, 0))) (hqR : q.block ≠ R) (hb : w.heap[b]? = some (.cells #[.string t] 53 (0, 0))) (hbR : b ≠ R) (hbq : b ≠ q.block)
    (hrd : Rd w R v (.iface 51 (.pointer (some ⟨b, 0, none⟩))) (.int .i64 0) (.slice none 0 0) (.slice none 0 0)) :
    Calls Ybaf.prog 9 #[.iface 32 (.pointer (some ⟨R, 0, none⟩)), .string ⟨#[106]⟩] w fun e w' => ∃ N, e = .returned (.tuple #[.int .i64 0, .iface 60 (.pointer (some ⟨N, 0, none⟩))]) ∧ Failed w w' R v b N := by
  have hmk := make18
  have hmt := method_read
  have hRw := rd_lt hrd
  have hne1 := fun w t x => run_neq_iface_nil (P := Ybaf.prog) w 25 iface25 t x
  have hread := readAt_fail R w.heap.size v 51 (.pointer (some ⟨b, 0, none⟩)) zeros18 (w.alloc (.cells zeros18 5)) (rd_alloc hrd _) (by omega) (by show (w.heap.push _)[w.heap.size]? = _; simp) zeros18_size
  have after : ∀ w2, After (w.alloc (.cells zeros18 5)) w2 R w.heap.size v (.iface 51 (.pointer (some ⟨b, 0, none⟩))) [] →
      Magic w w2 R v (.iface 51 (.pointer (some ⟨b, 0, none⟩))) ∧ w2.cell? ⟨0, 0, none⟩ = some (.iface 51 (.pointer (some q))) ∧ w2.cell? ⟨1, 0, none⟩ = some (.iface 67 (.agg #[.pointer (some ⟨2, 25, none⟩)])) ∧ w2.cell? ⟨b, 0, none⟩ = some (.string t)
        ∧ (binOp .neq 25 (.iface 51 (.pointer (some ⟨b, 0, none⟩))) (.iface 51 (.pointer (some q)))).run Ybaf.prog w2 = .ok (.bool true) w2 := by
    intro w2 haf
    have hm := magic_of_after haf
    have l0 : 0 < w.heap.size := World.block_lt_of_cell? _ _ hE
    have l1 : 1 < w.heap.size := World.block_lt_of_cell? _ _ hg
    have lq := lt_of_block hq
    have lb := lt_of_block hb
    have hb2 : w2.heap[b]? = some (.cells #[.string t] 53 (0, 0)) := by rw [hm.keep.block b lb hbR]; exact hb
    refine ⟨hm, ?_, ?_, ?_, neq51 ⟨b, 0, none⟩ q #[.string t] cq 53 tq w2 (fun e => hbq (by rw [← e])) hb2 (by rw [hm.keep.block q.block lq hqR]; exact hq)⟩
    · rw [hm.keep.cell l0 (by omega)]; exact hE
    · rw [hm.keep.cell l1 (by omega)]; exact hg
    · rw [cell_of_row w2 b 0 _ 53 (0, 0) hb2]; rfl
  clear hrd hq hb hE hg
  go_enter Ybaf.func9, Ybaf.ntmps9
  go_wp2_with (first | (go_at_call 48; refine hread.mono ?_; rintro e w2 ⟨rfl, haf⟩; obtain ⟨hm, hE2, hg2, hc2, hn2⟩ := after w2 haf; clear haf after hread) | (go_at_call 14; refine (fileError ⟨b, 0, none⟩ t ⟨#[106]⟩ _ ?_ ?_).mono ?_; exact hg2; exact hc2; rintro e w3 ⟨N, rfl, hN, b3⟩))
  go_ret2
  exact ⟨N, rfl, magic_over hm b3, hN⟩
end Go.Proofs.YbulkekcFmt
