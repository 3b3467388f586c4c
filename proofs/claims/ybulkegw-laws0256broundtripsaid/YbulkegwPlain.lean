/-
  THE PLAIN LAW of the splitter: no Go in sight.
-/
namespace Go.Proofs.Ybulkegw

/-- What splitWords holds at a round's head. -/
structure St where
  words : List (List UInt8)
  word : List UInt8
  inW : Bool
  quo : Bool
  esc : Bool

def blank (c : UInt8) : Bool := c == 32 || c == 9

def step (s : St) (c : UInt8) : St :=
  if s.esc then ⟨s.words, s.word ++ [c], s.inW, s.quo, false⟩
  else if s.quo && c == 92 then ⟨s.words, s.word, s.inW, s.quo, true⟩
  else if s.quo && c == 34 then ⟨s.words ++ [s.word], [], false, false, s.esc⟩
  else if s.quo then ⟨s.words, s.word ++ [c], s.inW, s.quo, s.esc⟩
  else if c == 34 then ⟨s.words, s.word, true, true, s.esc⟩
  else if blank c then (if s.inW then ⟨s.words ++ [s.word], [], false, s.quo, s.esc⟩ else s)
  else ⟨s.words, s.word ++ [c], true, s.quo, s.esc⟩

def st0 : St := ⟨[], [], false, false, false⟩
def runSt (l : List UInt8) : St := l.foldl step st0
def final (s : St) : List (List UInt8) := if s.inW then s.words ++ [s.word] else s.words

theorem runSt_snoc (l : List UInt8) (c : UInt8) : runSt (l ++ [c]) = step (runSt l) c := by
  simp [runSt, List.foldl_append]

theorem step_len (s : St) (c : UInt8) : (step s c).words.length ≤ s.words.length + 1 ∧ (step s c).word.length ≤ s.word.length + 1 := by
  unfold step
  repeat' split
  all_goals simp

/-- The run from a state on. -/
def runFrom (s : St) (l : List UInt8) : St := l.foldl step s
theorem runSt_from (l : List UInt8) : runSt l = runFrom st0 l := rfl
theorem runFrom_nil (s : St) : runFrom s [] = s := rfl
theorem runFrom_cons (s : St) (c : UInt8) (l : List UInt8) : runFrom s (c :: l) = runFrom (step s c) l := rfl
theorem runFrom_append (s : St) (a b : List UInt8) : runFrom s (a ++ b) = runFrom (runFrom s a) b := by
  simp [runFrom, List.foldl_append]

/-! ### LawS0256BPlain: the runs of bytes that are not blank -/

/-- What the law's own loop holds: the words so far, and where the open run began. -/
def wstep (ts : List UInt8) (k : Nat) (s : List (List UInt8) × Option Nat) (c : UInt8) : List (List UInt8) × Option Nat :=
  if blank c then (match s.2 with | some a => (s.1 ++ [(ts.take k).drop a], none) | none => s)
  else (match s.2 with | some _ => s | none => (s.1, some k))

def wrun (ts : List UInt8) : Nat → List (List UInt8) × Option Nat
  | 0 => ([], none)
  | k + 1 => wstep ts k (wrun ts k) (ts.getD k 0)

def wfinal (ts : List UInt8) (s : List (List UInt8) × Option Nat) : List (List UInt8) :=
  match s.2 with | some a => s.1 ++ [ts.drop a] | none => s.1

/-- The two machines go side by side where there is no quote. -/
theorem side (ts : List UInt8) (hq : ∀ c ∈ ts, c ≠ 34) : ∀ k, k ≤ ts.length →
    (runSt (ts.take k)).words = (wrun ts k).1 ∧ (runSt (ts.take k)).quo = false ∧ (runSt (ts.take k)).esc = false ∧
    (match (wrun ts k).2 with
      | some a => a < k ∧ (runSt (ts.take k)).inW = true ∧ (runSt (ts.take k)).word = (ts.take k).drop a
      | none => (runSt (ts.take k)).inW = false ∧ (runSt (ts.take k)).word = [])
  | 0, _ => by simp [runSt, st0, wrun]
  | k + 1, hk => by
    obtain ⟨h1, h2, h3, h4⟩ := side ts hq k (by omega)
    have hlt : k < ts.length := by omega
    have ht : ts.take (k + 1) = ts.take k ++ [ts[k]] := by rw [List.take_succ_eq_append_getElem hlt]
    have hg : ts.getD k 0 = ts[k] := by simp [List.getD, List.getElem?_eq_getElem hlt]
    have hc : ts[k] ≠ 34 := hq _ (List.getElem_mem hlt)
    have hl : (ts.take k).length = k := by simp; omega
    rw [ht, runSt_snoc]
    simp only [wrun, hg]
    generalize hS : runSt (ts.take k) = S at *
    generalize hR : wrun ts k = R at *
    obtain ⟨W, wd, iw, q, es⟩ := S
    obtain ⟨R1, R2⟩ := R
    simp only at h1 h2 h3 h4
    subst h1 h2 h3
    cases R2 with
    | none =>
      simp only at h4
      obtain ⟨rfl, rfl⟩ := h4
      by_cases hb : blank ts[k] = true
      · simp [step, wstep, hb, hc]
      · simp [step, wstep, hb, hc]
        rw [ht, List.drop_append_of_le_length (by omega), List.drop_of_length_le (by omega)]
        rfl
    | some a =>
      simp only at h4
      obtain ⟨ha, rfl, rfl⟩ := h4
      by_cases hb : blank ts[k] = true
      · simp [step, wstep, hb, hc]
      · simp [step, wstep, hb, hc]
        refine ⟨by omega, ?_⟩
        rw [ht, List.drop_append_of_le_length (by omega)]

/-- THE PLAIN LAW: both give the same words, and the line is not left open. -/
theorem plain_law (ts : List UInt8) (hq : ∀ c ∈ ts, c ≠ 34) : final (runSt ts) = wfinal ts (wrun ts ts.length) ∧ (runSt ts).quo = false := by
  obtain ⟨h1, h2, h3, h4⟩ := side ts hq ts.length (Nat.le_refl _)
  rw [List.take_of_length_le (Nat.le_refl _)] at h1 h2 h3 h4
  refine ⟨?_, h2⟩
  unfold final wfinal
  split at h4
  · simp [h1, h4.2.1, h4.2.2]
  · simp [h1, h4.1]

end Go.Proofs.Ybulkegw
