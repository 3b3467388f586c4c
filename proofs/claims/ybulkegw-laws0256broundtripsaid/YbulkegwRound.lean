/-
  THE PLAIN LAW of the round trip: no Go in sight.
-/
import Derived.Test.YbulkegwPlain
namespace Go.Proofs.Ybulkegw

def escB (c : UInt8) : List UInt8 := if c = 34 ∨ c = 92 then [92, c] else [c]
def innerL (l : List UInt8) : List UInt8 := l.flatMap escB
def quoteL (l : List UInt8) : List UInt8 := [34] ++ innerL l ++ [34]
def sepL (n : Nat) : List UInt8 := if n % 3 = 0 then [32] else if n % 3 = 1 then [9] else [32, 9, 32]

theorem sepL_blank (n : Nat) : ∀ c ∈ sepL n, blank c = true := by
  unfold sepL
  split
  · decide
  · split <;> decide
theorem sepL_len (n : Nat) : (sepL n).length ≤ 3 := by
  unfold sepL
  split
  · decide
  · split <;> decide

theorem innerL_snoc (l : List UInt8) (c : UInt8) : innerL (l ++ [c]) = innerL l ++ escB c := by simp [innerL]
theorem innerL_len (l : List UInt8) : (innerL l).length ≤ 2 * l.length := by
  induction l with
  | nil => simp [innerL]
  | cons c l ih =>
    have : (escB c).length ≤ 2 := by unfold escB; split <;> simp
    simp only [innerL, List.flatMap_cons, List.length_append, List.length_cons] at ih ⊢
    omega
theorem quoteL_len (l : List UInt8) : (quoteL l).length ≤ 2 * l.length + 2 := by
  have := innerL_len l
  simp [quoteL]
  omega

/-- The line, k words of it. -/
def lineK (sp : List UInt8) (W : Nat → List UInt8) : Nat → List UInt8
  | 0 => sp
  | k + 1 => lineK sp W k ++ (if 0 < k then sp else []) ++ quoteL (W k)

def tot (W : Nat → List UInt8) : Nat → Nat
  | 0 => 0
  | k + 1 => tot W k + (W k).length

theorem tot_mono (W : Nat → List UInt8) (k : Nat) : ∀ d, tot W k ≤ tot W (k + d)
  | 0 => Nat.le_refl _
  | d + 1 => by
    have := tot_mono W k d
    show _ ≤ tot W (k + d) + _
    omega
theorem tot_le (W : Nat → List UInt8) {k n : Nat} (h : k ≤ n) : tot W k ≤ tot W n := by
  have := tot_mono W k (n - k)
  rwa [show k + (n - k) = n by omega] at this
theorem tot_small (W : Nat → List UInt8) : ∀ k, (∀ j, j < k → (W j).length ≤ 4096) → tot W k ≤ 4096 * k
  | 0, _ => Nat.le_refl _
  | k + 1, h => by
    have := tot_small W k (fun j hj => h j (by omega))
    have := h k (by omega)
    show tot W k + _ ≤ _
    omega

theorem lineK_len (sp : List UInt8) (hsp : sp.length ≤ 3) (W : Nat → List UInt8) : ∀ k, (lineK sp W k).length ≤ 3 + 5 * k + 2 * tot W k
  | 0 => by simp [lineK, tot]; exact hsp
  | k + 1 => by
    have := lineK_len sp hsp W k
    have := quoteL_len (W k)
    have : (if 0 < k then sp else []).length ≤ 3 := by split <;> simp [hsp]
    simp only [lineK, tot, List.length_append]
    omega

theorem run_blank (ws : List (List UInt8)) : ∀ sp : List UInt8, (∀ c ∈ sp, blank c = true) → runFrom ⟨ws, [], false, false, false⟩ sp = ⟨ws, [], false, false, false⟩
  | [], _ => rfl
  | c :: sp, h => by
    have hc : blank c = true := h c (by simp)
    have h34 : (c == 34) = false := by
      unfold blank at hc
      cases h34 : (c == 34) with
      | false => rfl
      | true =>
        have : c = 34 := by simpa using h34
        subst this
        revert hc
        decide
    rw [runFrom_cons]
    have : step ⟨ws, [], false, false, false⟩ c = ⟨ws, [], false, false, false⟩ := by simp [step, hc, h34]
    rw [this]
    exact run_blank ws sp (fun d hd => h d (by simp [hd]))

theorem run_inner (ws : List (List UInt8)) : ∀ (l acc : List UInt8), runFrom ⟨ws, acc, true, true, false⟩ (innerL l) = ⟨ws, acc ++ l, true, true, false⟩
  | [], acc => by simp [innerL, runFrom_nil]
  | c :: l, acc => by
    have e : innerL (c :: l) = escB c ++ innerL l := rfl
    rw [e, runFrom_append]
    have : runFrom ⟨ws, acc, true, true, false⟩ (escB c) = ⟨ws, acc ++ [c], true, true, false⟩ := by
      unfold escB
      split
      · simp [runFrom, step]
      · rename_i h
        have h1 : c ≠ 34 := fun e => h (.inl e)
        have h2 : c ≠ 92 := fun e => h (.inr e)
        simp [runFrom, step, h1, h2]
    rw [this, run_inner ws l]
    simp

theorem run_quote (ws : List (List UInt8)) (l : List UInt8) : runFrom ⟨ws, [], false, false, false⟩ (quoteL l) = ⟨ws ++ [l], [], false, false, false⟩ := by
  have h1 : runFrom ⟨ws, [], false, false, false⟩ [34] = ⟨ws, [], true, true, false⟩ := by simp [runFrom, step]
  have h3 : runFrom ⟨ws, [] ++ l, true, true, false⟩ [34] = ⟨ws ++ [l], [], false, false, false⟩ := by simp [runFrom, step]
  rw [quoteL, runFrom_append, runFrom_append, h1, run_inner, h3]

theorem run_line (sp : List UInt8) (hsp : ∀ c ∈ sp, blank c = true) (W : Nat → List UInt8) : ∀ k, runFrom st0 (lineK sp W k) = ⟨(List.range k).map W, [], false, false, false⟩
  | 0 => by
    have := run_blank [] sp hsp
    simpa [lineK, st0] using this
  | k + 1 => by
    have h2 : runFrom ⟨(List.range k).map W, [], false, false, false⟩ (if 0 < k then sp else []) = ⟨(List.range k).map W, [], false, false, false⟩ := by
      split
      · exact run_blank _ sp hsp
      · rfl
    rw [lineK, runFrom_append, runFrom_append, run_line sp hsp W k, h2, run_quote]
    simp [List.range_succ]

/-- THE PLAIN LAW: the line, and blanks behind it, split into the very words; nothing is left open. -/
theorem round_law (n : Nat) (W : Nat → List UInt8) (k : Nat) : final (runSt (lineK (sepL n) W k ++ sepL n)) = (List.range k).map W ∧ (runSt (lineK (sepL n) W k ++ sepL n)).quo = false := by
  have h : runSt (lineK (sepL n) W k ++ sepL n) = ⟨(List.range k).map W, [], false, false, false⟩ := by
    rw [runSt_from, runFrom_append, run_line _ (sepL_blank n), run_blank _ _ (sepL_blank n)]
  rw [h]
  exact ⟨rfl, rfl⟩

end Go.Proofs.Ybulkegw
