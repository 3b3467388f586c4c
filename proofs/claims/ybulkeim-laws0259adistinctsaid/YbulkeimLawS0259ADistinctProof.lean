/-
  THE PROOF OF 'Rows.LawS0259ADistinctSaid', after the shell that was given with the seat.
-/
import Derived.Test.YbulkeimRows
import Derived.WalkKit
import Derived.WalkSpells
import Derived.LaidEqlPtr
import Derived.Below
import Derived.WalkLawsBesides
import Derived.ProofKit
import Derived.OpenShut
import Derived.ShutString
namespace Go.Proofs.Ybulkeim.lawS0259ADistinct
open Go.ChangeShapes Go.WideShapes Go.ChangeAt Go.RowKit
open Go.ChangeMaps (open_string shut_string)
set_option linter.unusedVariables false      -- a walk need not use every 'w<i>' (that an integer argument fits its kind)

theorem own : ownKnob Yba.prog.godebug = none := by kernel_rfl

theorem info30 : (Yba.prog.info? 30).map (fun i => (i.zero.isSome, i.size)) = some (true, 7) := by kernel_rfl

/-- Two blocks that the call has laid are two. -/
theorem eql_new (w : World) (A B : Array Value) : (binOp .eql 22 (.pointer (some ⟨w.heap.size, 0, none⟩)) (.pointer (some ⟨w.heap.size + 1, 0, none⟩))).run Yba.prog ((w.alloc (.cells A 30)).alloc (.cells B 30)) = .ok (.bool false) ((w.alloc (.cells A 30)).alloc (.cells B 30)) := by
  obtain ⟨i, hi, h2⟩ := Option.map_eq_some_iff.1 info30
  simp only [Prod.mk.injEq] at h2
  have h3 : (w.alloc (.cells A 30)).heap.size = w.heap.size + 1 := by simp
  refine run_eql_ptr_other (P := Yba.prog) (w := (w.alloc (.cells A 30)).alloc (.cells B 30)) (ca := A) (cb := B) (ta := 30) (tb := 30) Yba.underlying22 hi (by rw [h2.2]; decide) (by simp) ?_ ?_
  · show ((w.alloc (.cells A 30)).alloc (.cells B 30)).heap[w.heap.size]? = _
    rw [Below.heap_alloc (w.alloc (.cells A 30)) (.cells B 30) w.heap.size (by rw [h3]; omega)]
    exact heap_alloc_new w _
  · show ((w.alloc (.cells A 30)).alloc (.cells B 30)).heap[w.heap.size + 1]? = _
    have := heap_alloc_new (w.alloc (.cells A 30)) (.cells B 30)
    rwa [h3] at this

/-! ### STEP 1: THE WALK: the Go text returns true. 'Grown w w'': the world has at most new blocks (Derived/RowKit3.lean). Part the cases AHEAD of 'go_enter' where a test parts the walk; take each callee by a contract of your own. -/
theorem walk (a0 : ByteArray) (a1 : Bool) (w0 : a0.size ≤ maxLen) (w : World) :
    Calls Yba.prog 4 #[.string a0, .bool a1] w fun e w' => e = .returned (.bool true) ∧ Grown w w' := by
  have heq := eql_new w
  go_enter Yba.func4, Yba.ntmps4
  go_wp2
  go_ret
  exact ⟨rfl, by repeat (first | exact Grown.refl _ | apply Grown.drew | apply Grown.alloc)⟩

/-! ### THE ROW's STEP: WRITTEN OUT: LEAVE IT -/
set_option maxRecDepth 100000 in
theorem lifted (os : Os) (started : os.Started) (H : Type) (enc : TypeId × Value → H) :
    ReturnsInHanded {} Yba.checked os 4 .any (Rows.lawS0259ADistinctSpec.pre6 enc Yba.prog Yba.f4 Rows.lawS0259ADistinctRow.domain false) (Rows.lawS0259ADistinctSpec.post enc Yba.prog Yba.f4 false true false false) := by
  refine returnsInHanded_of_change (C := Yba.checked) own started (by kernel_rfl) Yba.func4
    (ChangeSpec.witness6 (enc := enc) (C := Yba.checked) false ⟨#[], #[.string ByteArray.empty, .bool false], []⟩ 8 (by kernel_rfl) (by kernel_rfl) (by kernel_rfl) (by kernel_rfl)) ?_
  intro W base args ds gs before hval0 hW hcnd _
  have hval : ∀ (j : Nat) t v, Yba.f4.params[j]? = some t → args[j]? = some v → Value.okWide Yba.prog W .any base t v := hval0
  have hW' := hW
  obtain ⟨p, q, hA0, hV, rfl, hfz, hnd⟩ := hW
  have hA : DataW.TrodAll enc Yba.prog W 0 (fun _ => true) true Yba.f4.params.toList args.toList ds p := hA0
  rw [Yba.params4] at hA hval
  obtain ⟨v0, vs0, d0, ds0, p0, q0, hargs, rfl, rfl, h0, r0⟩ := trodAll_cons hA
  obtain ⟨v1, vs1, d1, ds1, p1, q1, rfl, rfl, rfl, h1, r1⟩ := trodAll_cons r0
  obtain ⟨rfl, rfl, rfl⟩ := trodAll_nil r1
  obtain rfl : args = #[v0, v1] := by cases args; simp_all
  obtain ⟨rfl, rfl⟩ := trodVars_none hV
  obtain ⟨a0, rfl, rfl, rfl, w0⟩ := open_string Yba.underlying9 (hval 0 9 v0 rfl rfl) h0
  obtain ⟨a1, rfl, rfl, rfl⟩ := open_bool Yba.underlying4 (hval 1 4 v1 rfl rfl) h1
  clear hA0 hval0
  simp only [List.append_nil] at hW'
  refine (walk a0 a1 w0 W).mono fun e W' ⟨he, hg⟩ => ?_
  subst he
  exact ⟨_, rfl, post_of_same (pa := []) (pv := []) hW' (fun _ _ _ => (trodAll_cons_mk (shut_bool Yba.underlying4 _) trodAll_mk0)) (fun sp _ => (trodAll_cons_mk (shut_string Yba.underlying9 w0) (trodAll_cons_mk (shut_bool Yba.underlying4 _) trodAll_mk0))) (fun _ _ => rfl) rfl
    (hg.frame _) hg.2.1 (ok_one (by kernel_rfl) rfl (okWide_bool_mk Yba.underlying4 _))⟩

theorem over : Rows.lawS0259ADistinctRow.holds Yba.pinned (OpenSpec.ofChange Rows.lawS0259ADistinctSpec) :=
  OpenClaim.holds_of_wide 4 Yba.f4 rfl rfl rfl rfl rfl rfl rfl ⟨rfl, rfl, rfl, rfl, rfl⟩ rfl rfl rfl rfl rfl (by kernel_rfl) Yba.func4 (by kernel_rfl)
    (of_decide_eq_true (by kernel_rfl)) (by unfold Func.isWrapper; first | (rw [if_pos (by decide +kernel)]; kernel_rfl) | (rw [if_neg (by decide +kernel)]; exact ⟨rfl, rfl⟩))
    (fun os started H enc _ => lifted os started H enc)

/-- ████ THE STATEMENT ████ -/
theorem proved : Rows.LawS0259ADistinctSaid :=
  over
#print axioms proved
end Go.Proofs.Ybulkeim.lawS0259ADistinct
