import PyProof.Rows.All
import Wide.All
import OpenK.AllK
import Wide.FinOn
import PySem.Challenge.RW_mj0036_01
set_option Elab.async false
set_option maxRecDepth 100000
set_option linter.all false

section
open PySem PySem.Sre

namespace Mine

def code1 : Array Nat := #[14, 4, 0, 1, 1, 6, 1, 16, 46, 1]
def code2 : Array Nat := #[14, 9, 4, 1, 2, 16, 10, 16, 13, 0, 7, 7, 16, 13, 16, 10, 15, 18, 5, 16, 10, 15, 13, 11, 16, 13, 5, 5, 0, 16, 10, 1, 15, 2, 0, 1]

/-- the machine at an attempt -/
def at1 (text : Array Nat) (lim s : Nat) (seen : Seen) (must first : Bool) (pc pos : Nat) (ans : Option Bool) : M :=
  { code := code1, text := text, lim := lim, start := s, lastStart := lim, mustAdvance := must, pc := pc, pos := pos, handed := s, outermost := first, marks := #[],
    frames := [{ wait := .nextStart, pc := 5, pos := s, outermost := first }], weight := 1, answer := ans, seen := seen }

theorem forSearch1 (text : Array Nat) (pos lim : Nat) (must : Bool) (h : pos < lim) : forSearch code1 text 0 pos lim must = at1 text lim pos (({} : Seen).add 14) must true 5 pos none := by
  unfold forSearch
  have h1 : (decide (pos > lim) || decide (lim - pos < (header code1).1)) = false := by
    have : (header code1).1 = 1 := by decide
    rw [this]; simp; omega
  simp only [h1]
  rfl

end Mine
end

section
open PySem PySem.Sre
namespace Mine

/-- the machine ends behind n steps with this answer -/
def EndsIn (m : M) (n : Nat) (r : Option (Nat × Nat)) : Prop :=
  match r with
  | none => (m.runFor n).outcome = some .failed
  | some (a, b) => (m.runFor n).outcome = some .matched ∧ (m.runFor n).start = a ∧ (m.runFor n).handed = b

theorem runFor_succ {m : M} (h : m.outcome = none) (n : Nat) : m.runFor (n + 1) = m.step.runFor n := by
  rw [M.runFor, h]; rfl
theorem runFor_done {m : M} (h : m.outcome.isSome = true) : ∀ n, m.runFor n = m
  | 0 => rfl
  | n + 1 => by rw [M.runFor, if_pos h]
theorem runFor_add : ∀ (a b : Nat) (m : M), m.runFor (a + b) = (m.runFor a).runFor b
  | 0, b, m => by rw [Nat.zero_add]; rfl
  | a + 1, b, m => by
    rw [show a + 1 + b = (a + b) + 1 by omega]
    by_cases h : m.outcome.isSome = true
    · rw [runFor_done h, runFor_done h, runFor_done h]
    · have h' : m.outcome = none := by simpa using h
      rw [runFor_succ h', runFor_succ h', runFor_add a b]
theorem EndsIn.some_outcome {m : M} {n : Nat} {r : Option (Nat × Nat)} (h : EndsIn m n r) : (m.runFor n).outcome.isSome = true := by
  unfold EndsIn at h; split at h
  · rw [h]; rfl
  · rw [h.1]; rfl
theorem EndsIn.step {m : M} {n : Nat} {r : Option (Nat × Nat)} (h : m.outcome = none) (e : EndsIn m.step n r) : EndsIn m (n + 1) r := by
  unfold EndsIn at *; rw [runFor_succ h]; exact e


theorem step1a (text : Array Nat) (lim s : Nat) (seen : Seen) (must first : Bool) :
    (at1 text lim s seen must first 5 s none).step = (if (s == 0 || text.getD (s - 1) 0 == 10) = true then at1 text lim s ((seen.add 6).add 44) must first 7 s none else at1 text lim s ((seen.add 6).add 44) must first 5 s (some false)) := by
  show (match M.isAt (at1 text lim s (seen.add 6) must first 5 s none) 1 with
    | .error why => M.stick (at1 text lim s (seen.add 6) must first 5 s none) why
    | .ok yes => let m := at1 text lim s ((seen.add 6).add 44) must first 5 s none; if yes then { m with pc := m.pc + 2 } else m.say false) = _
  rfl

theorem step1f (text : Array Nat) (lim s : Nat) (seen : Seen) (must first : Bool) (pc pos : Nat) (h : s < lim) :
    (at1 text lim s seen must first pc pos (some false)).step = at1 text lim (s + 1) seen false false 5 (s + 1) none := by
  show (if s < lim then _ else _) = _
  rw [if_pos h]
  rfl

theorem step1e (text : Array Nat) (lim : Nat) (seen : Seen) (must first : Bool) (pc pos : Nat) :
    EndsIn (at1 text lim lim seen must first pc pos (some false)) 2 none := by
  have : (at1 text lim lim seen must first pc pos (some false)).step = (if lim < lim then at1 text lim (lim + 1) seen false false 5 (lim + 1) none else { at1 text lim lim seen must first 5 lim (some false) with frames := [], weight := 0 }) := rfl
  refine .step rfl ?_
  rw [this, if_neg (Nat.lt_irrefl _)]
  rfl

theorem step1b (text : Array Nat) (lim s : Nat) (seen : Seen) (must first : Bool) :
    (at1 text lim s seen must first 7 s none).step = (if s ≥ lim then at1 text lim s (seen.add 16) must first 7 s (some false) else
      if (text.getD s 0 == 46) = true then at1 text lim s (seen.add 16) must first 9 (s + 1) none else at1 text lim s (seen.add 16) must first 7 s (some false)) := by
  show (if s ≥ lim then _ else match (Except.ok (text.getD s 0 == 46, seen.add 16) : Except String (Bool × Seen)) with
    | .error why => M.stick (at1 text lim s (seen.add 16) must first 7 s none) why
    | .ok (false, seen) => M.say (at1 text lim s seen must first 7 s none) false
    | .ok (true, seen) => at1 text lim s seen must first 9 (s + 1) none) = _
  split
  · rfl
  · cases text.getD s 0 == 46 <;> rfl

theorem step1c (text : Array Nat) (lim s : Nat) (seen : Seen) (must first : Bool) :
    EndsIn (at1 text lim s seen must first 9 (s + 1) none) 3 (some (s, s + 1)) := by
  have h : (at1 text lim s seen must first 9 (s + 1) none).step = (if (first && ((false && s + 1 != lim) || (must && s + 1 == s))) = true then at1 text lim s (seen.add 1) must first 9 (s + 1) (some false) else
    { at1 text lim s (seen.add 1) must first 9 (s + 1) (some true) with handed := s + 1 }) := rfl
  have h2 : (s + 1 == s) = false := by simp
  refine .step rfl ?_
  rw [h, h2]
  simp only [Bool.false_and, Bool.and_false, Bool.or_false, Bool.false_eq_true, if_false]
  exact ⟨rfl, rfl, rfl⟩

end Mine
end

section
open PySem PySem.Sre
namespace Mine

def hit1 (text : Array Nat) (i : Nat) : Bool := (i == 0 || text.getD (i - 1) 0 == 10) && text.getD i 0 == 46
def Spec1 (text : Array Nat) (lim s : Nat) : Option (Nat × Nat) → Prop
  | none => ∀ i, s ≤ i → i < lim → hit1 text i = false
  | some (a, b) => s ≤ a ∧ a < lim ∧ b = a + 1 ∧ hit1 text a = true ∧ ∀ i, s ≤ i → i < a → hit1 text i = false

theorem spec1_next {text : Array Nat} {lim s : Nat} {r : Option (Nat × Nat)} (h : hit1 text s = false) (e : Spec1 text lim (s + 1) r) : Spec1 text lim s r := by
  cases r with
  | none => intro i h1 h2; rcases Nat.lt_or_eq_of_le h1 with h3 | rfl; exact e i h3 h2; exact h
  | some p =>
    obtain ⟨a, b⟩ := p
    obtain ⟨h1, h2, h3, h4, h5⟩ := e
    refine ⟨by omega, h2, h3, h4, fun i h6 h7 => ?_⟩
    rcases Nat.lt_or_eq_of_le h6 with h8 | rfl; exact h5 i h8 h7; exact h

theorem search1 (text : Array Nat) (lim : Nat) : ∀ (k s : Nat) (seen : Seen) (must first : Bool), s + k = lim → ∃ n r, n ≤ 3 * k + 6 ∧ EndsIn (at1 text lim s seen must first 5 s none) n r ∧ Spec1 text lim s r := by
  intro k
  induction k with
  | zero =>
    intro s seen must first e
    have e : s = lim := by omega
    subst e
    by_cases h : (s == 0 || text.getD (s - 1) 0 == 10) = true
    · refine ⟨4, none, by omega, ?_, fun i h1 h2 => by omega⟩
      refine .step rfl ?_
      rw [step1a, if_pos h]
      refine .step rfl ?_
      rw [step1b, if_pos (Nat.le_refl _)]
      exact step1e ..
    · refine ⟨3, none, by omega, ?_, fun i h1 h2 => by omega⟩
      refine .step rfl ?_
      rw [step1a, if_neg h]
      exact step1e ..
  | succ k ih =>
    intro s seen must first e
    have hs : s < lim := by omega
    by_cases h : (s == 0 || text.getD (s - 1) 0 == 10) = true
    · by_cases h2 : (text.getD s 0 == 46) = true
      · refine ⟨5, some (s, s + 1), by omega, ?_, Nat.le_refl _, hs, rfl, by rw [hit1, h, h2]; rfl, fun i h1 h2 => by omega⟩
        refine .step rfl ?_
        rw [step1a, if_pos h]
        refine .step rfl ?_
        rw [step1b, if_neg (by omega), if_pos h2]
        exact step1c ..
      · obtain ⟨n, r, hn, en, sp⟩ := ih (s + 1) (((seen.add 6).add 44).add 16) false false (by omega)
        refine ⟨n + 3, r, by omega, ?_, spec1_next (by rw [hit1, h]; simpa using h2) sp⟩
        refine .step rfl ?_
        rw [step1a, if_pos h]
        refine .step rfl ?_
        rw [step1b, if_neg (by omega), if_neg h2]
        refine .step rfl ?_
        rw [step1f _ _ _ _ _ _ _ _ hs]
        exact en
    · obtain ⟨n, r, hn, en, sp⟩ := ih (s + 1) ((seen.add 6).add 44) false false (by omega)
      refine ⟨n + 2, r, by omega, ?_, spec1_next (by rw [hit1]; simp only [Bool.not_eq_true] at h; rw [h]; rfl) sp⟩
      refine .step rfl ?_
      rw [step1a, if_neg h]
      refine .step rfl ?_
      rw [step1f _ _ _ _ _ _ _ _ hs]
      exact en

theorem found1 (text : Array Nat) (lim s : Nat) (must : Bool) (h : s ≤ lim) : ∃ n r, n ≤ 3 * lim + 6 ∧ EndsIn (forSearch code1 text 0 s lim must) n r ∧ Spec1 text lim s r := by
  rcases Nat.lt_or_eq_of_le h with h1 | rfl
  · rw [forSearch1 _ _ _ _ h1]
    obtain ⟨n, r, a, b, c⟩ := search1 text lim (lim - s) s (({} : Seen).add 14) must true (by omega)
    exact ⟨n, r, by omega, b, c⟩
  · refine ⟨1, none, by omega, ?_, fun i h1 h2 => by omega⟩
    unfold forSearch
    have h1 : (decide (s > s) || decide (s - s < (header code1).1)) = true := by
      have : (header code1).1 = 1 := by decide
      rw [this]; simp
    simp only [h1, if_true]
    rfl

end Mine
end

section
open PySem PySem.Sre
namespace Mine

def at2 (text : Array Nat) (lim i : Nat) (seen : Seen) (first : Bool) (fs : List Sre.Frame) (wt pc pos : Nat) (out : Bool) (ans : Option Bool) (handed : Nat) : M :=
  { code := code2, text := text, lim := lim, start := i, lastStart := lim, mustAdvance := false, pc := pc, pos := pos, handed := handed, outermost := out, marks := #[],
    frames := fs, weight := wt, answer := ans, seen := seen }

def fStart (i : Nat) (first : Bool) : Sre.Frame := { wait := .nextStart, pc := 10, pos := i, outermost := first }
def fBranch (pc i : Nat) (out : Bool) : Sre.Frame := { wait := .nextBranch, pc := pc, pos := i, outermost := out, kept := { marks := #[] } }
def fLook (i : Nat) (out : Bool) : Sre.Frame := { wait := .lookNot, pc := 26, pos := i, outermost := out, kept := { marks := #[] } }

section
variable (text : Array Nat) (lim i : Nat) (seen : Seen) (first : Bool) (fs : List Sre.Frame) (wt pc pos : Nat) (out : Bool) (ans : Option Bool) (handed : Nat)

theorem lit2_12 : (at2 text lim i seen first fs wt 12 pos out none handed).step = (if pos ≥ lim then at2 text lim i (seen.add 16) first fs wt 12 pos out (some false) handed else
    if (text.getD pos 0 == 13) = true then at2 text lim i (seen.add 16) first fs wt 14 (pos + 1) out none handed else at2 text lim i (seen.add 16) first fs wt 12 pos out (some false) handed) := by
  show (if pos ≥ lim then _ else match (Except.ok (text.getD pos 0 == 13, seen.add 16) : Except String (Bool × Seen)) with
    | .error why => M.stick (at2 text lim i (seen.add 16) first fs wt 12 pos out none handed) why
    | .ok (false, seen) => M.say (at2 text lim i seen first fs wt 12 pos out none handed) false
    | .ok (true, seen) => at2 text lim i seen first fs wt 14 (pos + 1) out none handed) = _
  split
  · rfl
  · cases text.getD pos 0 == 13 <;> rfl
theorem lit2_14 : (at2 text lim i seen first fs wt 14 pos out none handed).step = (if pos ≥ lim then at2 text lim i (seen.add 16) first fs wt 14 pos out (some false) handed else
    if (text.getD pos 0 == 10) = true then at2 text lim i (seen.add 16) first fs wt 16 (pos + 1) out none handed else at2 text lim i (seen.add 16) first fs wt 14 pos out (some false) handed) := by
  show (if pos ≥ lim then _ else match (Except.ok (text.getD pos 0 == 10, seen.add 16) : Except String (Bool × Seen)) with
    | .error why => M.stick (at2 text lim i (seen.add 16) first fs wt 14 pos out none handed) why
    | .ok (false, seen) => M.say (at2 text lim i seen first fs wt 14 pos out none handed) false
    | .ok (true, seen) => at2 text lim i seen first fs wt 16 (pos + 1) out none handed) = _
  split
  · rfl
  · cases text.getD pos 0 == 10 <;> rfl
theorem lit2_19 : (at2 text lim i seen first fs wt 19 pos out none handed).step = (if pos ≥ lim then at2 text lim i (seen.add 16) first fs wt 19 pos out (some false) handed else
    if (text.getD pos 0 == 10) = true then at2 text lim i (seen.add 16) first fs wt 21 (pos + 1) out none handed else at2 text lim i (seen.add 16) first fs wt 19 pos out (some false) handed) := by
  show (if pos ≥ lim then _ else match (Except.ok (text.getD pos 0 == 10, seen.add 16) : Except String (Bool × Seen)) with
    | .error why => M.stick (at2 text lim i (seen.add 16) first fs wt 19 pos out none handed) why
    | .ok (false, seen) => M.say (at2 text lim i seen first fs wt 19 pos out none handed) false
    | .ok (true, seen) => at2 text lim i seen first fs wt 21 (pos + 1) out none handed) = _
  split
  · rfl
  · cases text.getD pos 0 == 10 <;> rfl
theorem lit2_24 : (at2 text lim i seen first fs wt 24 pos out none handed).step = (if pos ≥ lim then at2 text lim i (seen.add 16) first fs wt 24 pos out (some false) handed else
    if (text.getD pos 0 == 13) = true then at2 text lim i (seen.add 16) first fs wt 26 (pos + 1) out none handed else at2 text lim i (seen.add 16) first fs wt 24 pos out (some false) handed) := by
  show (if pos ≥ lim then _ else match (Except.ok (text.getD pos 0 == 13, seen.add 16) : Except String (Bool × Seen)) with
    | .error why => M.stick (at2 text lim i (seen.add 16) first fs wt 24 pos out none handed) why
    | .ok (false, seen) => M.say (at2 text lim i seen first fs wt 24 pos out none handed) false
    | .ok (true, seen) => at2 text lim i seen first fs wt 26 (pos + 1) out none handed) = _
  split
  · rfl
  · cases text.getD pos 0 == 13 <;> rfl
theorem lit2_29 : (at2 text lim i seen first fs wt 29 pos out none handed).step = (if pos ≥ lim then at2 text lim i (seen.add 16) first fs wt 29 pos out (some false) handed else
    if (text.getD pos 0 == 10) = true then at2 text lim i (seen.add 16) first fs wt 31 (pos + 1) out none handed else at2 text lim i (seen.add 16) first fs wt 29 pos out (some false) handed) := by
  show (if pos ≥ lim then _ else match (Except.ok (text.getD pos 0 == 10, seen.add 16) : Except String (Bool × Seen)) with
    | .error why => M.stick (at2 text lim i (seen.add 16) first fs wt 29 pos out none handed) why
    | .ok (false, seen) => M.say (at2 text lim i seen first fs wt 29 pos out none handed) false
    | .ok (true, seen) => at2 text lim i seen first fs wt 31 (pos + 1) out none handed) = _
  split
  · rfl
  · cases text.getD pos 0 == 10 <;> rfl
theorem jump2_16 : (at2 text lim i seen first fs wt 16 pos out none handed).step = at2 text lim i (seen.add 15) first fs wt 35 pos out none handed := rfl
theorem jump2_21 : (at2 text lim i seen first fs wt 21 pos out none handed).step = at2 text lim i (seen.add 15) first fs wt 35 pos out none handed := rfl
theorem jump2_32 : (at2 text lim i seen first fs wt 32 pos out none handed).step = at2 text lim i (seen.add 15) first fs wt 35 pos out none handed := rfl
/-- the branch, its first way -/
theorem br2 : (at2 text lim i seen first [fStart i first] 1 10 i out none i).step = at2 text lim i (seen.add 7) first [fBranch 11 i out, fStart i first] 2 12 i out none i := rfl
theorem back2_11 : (at2 text lim i seen first [fBranch 11 i out, fStart i first] 2 pc pos out (some false) handed).step = at2 text lim i seen first [fBranch 18 i out, fStart i first] 2 19 i out none i := rfl
theorem back2_18 : (at2 text lim i seen first [fBranch 18 i out, fStart i first] 2 pc pos out (some false) handed).step = at2 text lim i seen first [fBranch 23 i out, fStart i first] 2 24 i out none i := rfl
theorem not2 : (at2 text lim i seen first [fBranch 23 i out, fStart i first] 2 26 (i + 1) out none i).step = at2 text lim i (seen.add 5) first [fLook (i + 1) out, fBranch 23 i out, fStart i first] 3 29 (i + 1) false none (i + 1) := rfl
theorem not2_no : (at2 text lim i seen first [fLook (i + 1) out, fBranch 23 i out, fStart i first] 3 pc pos false (some false) handed).step = at2 text lim i seen first [fBranch 23 i out, fStart i first] 2 32 (i + 1) out none handed := rfl
theorem end2 {pb : Nat} : EndsIn (at2 text lim i seen first [fBranch pb i out, fStart i first] 2 35 pos out none handed) 4 (some (i, pos)) := by
  have h : (at2 text lim i seen first [fBranch pb i out, fStart i first] 2 35 pos out none handed).step = (if (out && ((false && pos != lim) || (false && pos == i))) = true then at2 text lim i (seen.add 1) first [fBranch pb i out, fStart i first] 2 35 pos out (some false) handed else
    at2 text lim i (seen.add 1) first [fBranch pb i out, fStart i first] 2 35 pos out (some true) pos) := rfl
  refine .step rfl ?_
  rw [h]
  simp only [Bool.false_and, Bool.or_false, Bool.and_false, Bool.false_eq_true, if_false]
  exact ⟨rfl, rfl, rfl⟩
end

/-- where the found end of line ends -/
def eolEnd (text : Array Nat) (lim i : Nat) : Nat := if text.getD i 0 = 13 ∧ i + 1 < lim ∧ text.getD (i + 1) 0 = 10 then i + 2 else i + 1

theorem match2 (text : Array Nat) (lim i : Nat) (seen : Seen) (first : Bool) (hi : i < lim) (hc : text.getD i 0 = 10 ∨ text.getD i 0 = 13) :
    EndsIn (at2 text lim i seen first [fStart i first] 1 10 i first none i) 15 (some (i, eolEnd text lim i)) ∨ EndsIn (at2 text lim i seen first [fStart i first] 1 10 i first none i) 9 (some (i, eolEnd text lim i))
    ∨ EndsIn (at2 text lim i seen first [fStart i first] 1 10 i first none i) 8 (some (i, eolEnd text lim i)) := by
  have hl : ¬ i ≥ lim := by omega
  rcases hc with hc | hc
  · refine .inr (.inl ?_)
    have he : eolEnd text lim i = i + 1 := by unfold eolEnd; rw [if_neg (by omega)]
    rw [he]
    refine .step rfl ?_
    rw [br2]
    refine .step rfl ?_
    rw [lit2_12, if_neg hl, if_neg (by simp [hc])]
    refine .step rfl ?_
    rw [back2_11]
    refine .step rfl ?_
    rw [lit2_19, if_neg hl, if_pos (by simp [hc])]
    refine .step rfl ?_
    rw [jump2_21]
    exact end2 ..
  · by_cases h2 : i + 1 < lim ∧ text.getD (i + 1) 0 = 10
    · refine .inr (.inr ?_)
      have he : eolEnd text lim i = i + 2 := by unfold eolEnd; rw [if_pos ⟨hc, h2⟩]
      rw [he]
      refine .step rfl ?_
      rw [br2]
      refine .step rfl ?_
      rw [lit2_12, if_neg hl, if_pos (by simp [hc])]
      refine .step rfl ?_
      rw [lit2_14, if_neg (by omega), if_pos (by simp [h2.2])]
      refine .step rfl ?_
      rw [jump2_16]
      exact end2 ..
    · refine .inl ?_
      have he : eolEnd text lim i = i + 1 := by unfold eolEnd; rw [if_neg (fun h => h2 h.2)]
      have h3 : ∀ a b : M, (if i + 1 ≥ lim then a else if (text.getD (i + 1) 0 == 10) = true then b else a) = a := by
        intro a b
        split
        · rfl
        · rw [if_neg]; intro h; exact h2 ⟨by omega, by simpa using h⟩
      rw [he]
      refine .step rfl ?_
      rw [br2]
      refine .step rfl ?_
      rw [lit2_12, if_neg hl, if_pos (by simp [hc])]
      refine .step rfl ?_
      rw [lit2_14, h3]
      refine .step rfl ?_
      rw [back2_11]
      refine .step rfl ?_
      rw [lit2_19, if_neg hl, if_neg (by simp [hc])]
      refine .step rfl ?_
      rw [back2_18]
      refine .step rfl ?_
      rw [lit2_24, if_neg hl, if_pos (by simp [hc])]
      refine .step rfl ?_
      rw [not2]
      refine .step rfl ?_
      rw [lit2_29, h3]
      refine .step rfl ?_
      rw [not2_no]
      refine .step rfl ?_
      rw [jump2_32]
      exact end2 ..

def eol (c : Nat) : Bool := c == 10 || c == 13

theorem inSet2 (c : Nat) (seen : Seen) : ∃ seen', inSet code2 c 36 5 true seen = .ok (eol c, seen') := by
  have e : inSet code2 c 36 5 true seen = (if (c == 10) = true then .ok (true, seen.add 16) else if (c == 13) = true then .ok (true, (seen.add 16).add 16) else .ok (false, ((seen.add 16).add 16).add 0)) := rfl
  rw [e]
  unfold eol
  cases h1 : c == 10
  · cases h2 : c == 13
    · exact ⟨_, rfl⟩
    · exact ⟨_, rfl⟩
  · exact ⟨_, rfl⟩

def Spec2 (text : Array Nat) (lim s : Nat) : Option (Nat × Nat) → Prop
  | none => ∀ i, s ≤ i → i < lim → eol (text.getD i 0) = false
  | some (a, b) => s ≤ a ∧ a < lim ∧ b = eolEnd text lim a ∧ eol (text.getD a 0) = true ∧ ∀ i, s ≤ i → i < a → eol (text.getD i 0) = false

theorem admitted2 (m : M) (hm : m.code = code2) : ∀ (k s : Nat) (seen : Seen), s + k = m.lim → ∃ seen', M.admitted m (k + 1) s seen = .ok (none, seen') ∧ (∀ i, s ≤ i → i < m.lim → eol (m.text.getD i 0) = false) ∨
    ∃ a, M.admitted m (k + 1) s seen = .ok (some a, seen') ∧ s ≤ a ∧ a < m.lim ∧ eol (m.text.getD a 0) = true ∧ ∀ i, s ≤ i → i < a → eol (m.text.getD i 0) = false := by
  intro k
  induction k with
  | zero =>
    intro s seen e
    refine ⟨seen, .inl ⟨?_, fun i h1 h2 => by omega⟩⟩
    rw [M.admitted, if_pos (by omega)]
  | succ k ih =>
    intro s seen e
    obtain ⟨s1, h1⟩ := inSet2 (m.text.getD s 0) seen
    have hs : ¬ s ≥ m.lim := by omega
    cases hc : eol (m.text.getD s 0)
    · obtain ⟨s2, h2⟩ := ih (s + 1) s1 (by omega)
      refine ⟨s2, ?_⟩
      have e1 : M.admitted m (k + 1 + 1) s seen = M.admitted m (k + 1) (s + 1) s1 := by
        rw [M.admitted, if_neg hs, hm]
        show (match inSet code2 _ 36 5 true seen with | .ok (true, seen) => _ | .ok (false, seen) => _ | .error why => _) = _
        rw [h1, hc]
      rw [e1]
      rcases h2 with ⟨h2, h3⟩ | ⟨a, h2, h3, h4, h5, h6⟩
      · exact .inl ⟨h2, fun i h4 h5 => by rcases Nat.lt_or_eq_of_le h4 with h6 | rfl; exact h3 i h6 h5; exact hc⟩
      · exact .inr ⟨a, h2, by omega, h4, h5, fun i h7 h8 => by rcases Nat.lt_or_eq_of_le h7 with h9 | rfl; exact h6 i h9 h8; exact hc⟩
    · refine ⟨s1, .inr ⟨s, ?_, Nat.le_refl _, by omega, hc, fun i h1 h2 => by omega⟩⟩
      rw [M.admitted, if_neg hs, hm]
      show (match inSet code2 _ 36 5 true seen with | .ok (true, seen) => _ | .ok (false, seen) => _ | .error why => _) = _
      rw [h1, hc]

theorem found2 (text : Array Nat) (lim s : Nat) (must : Bool) (h : s ≤ lim) : ∃ n r, n ≤ 15 ∧ EndsIn (forSearch code2 text 0 s lim must) n r ∧ Spec2 text lim s r := by
  rcases Nat.lt_or_eq_of_le h with h1 | rfl
  · have h2 : (decide (s > lim) || decide (lim - s < (header code2).1)) = false := by
      have : (header code2).1 = 1 := by decide
      rw [this]; simp; omega
    have e : forSearch code2 text 0 s lim must = (match M.admitted { at2 text lim s (({} : Seen).add 14) true [] 0 10 s true none s with mustAdvance := must } (lim + 1 - s) s (({} : Seen).add 14) with
      | .ok (some a, seen) => at2 text lim a seen true [fStart a true] 1 10 a true none a
      | .ok (none, seen) => { at2 text lim s seen true [] 0 10 s true (some false) s with mustAdvance := must }
      | .error why => M.stick { at2 text lim s (({} : Seen).add 14) true [] 0 10 s true none s with mustAdvance := must } why) := by
      unfold forSearch
      simp only [h2]
      rfl
    rw [e]
    obtain ⟨s', h3⟩ := admitted2 { at2 text lim s (({} : Seen).add 14) true [] 0 10 s true none s with mustAdvance := must } rfl (lim - s) s (({} : Seen).add 14) (by show s + (lim - s) = lim; omega)
    rw [show lim - s + 1 = lim + 1 - s by omega] at h3
    rcases h3 with ⟨h3, h4⟩ | ⟨a, h3, h4, h5, h6, h7⟩
    · rw [h3]
      exact ⟨1, none, by omega, rfl, h4⟩
    · rw [h3]
      have hc : text.getD a 0 = 10 ∨ text.getD a 0 = 13 := by
        have : eol (text.getD a 0) = true := h6
        simpa [eol] using this
      rcases match2 text lim a s' true h5 hc with q | q | q
      · exact ⟨15, _, by omega, q, h4, h5, rfl, h6, h7⟩
      · exact ⟨9, _, by omega, q, h4, h5, rfl, h6, h7⟩
      · exact ⟨8, _, by omega, q, h4, h5, rfl, h6, h7⟩
  · refine ⟨1, none, by omega, ?_, fun i h1 h2 => by omega⟩
    unfold forSearch
    have h1 : (decide (s > s) || decide (s - s < (header code2).1)) = true := by
      have : (header code2).1 = 1 := by decide
      rw [this]; simp
    simp only [h1, if_true]
    rfl

end Mine
end

section
open PySem PySem.Sre PySem.Builtin.Re
namespace Mine
section
variable {prog : Program} {w : World} {A : Around} {E : Value → Shared → Prop} {s : Shared}

theorem runFor_same {m : Sre.M} {a b : Nat} (ha : (m.runFor a).outcome.isSome = true) (hb : (m.runFor b).outcome.isSome = true) : m.runFor a = m.runFor b := by
  rcases Nat.le_total a b with h | h
  · have : b = a + (b - a) := by omega
    rw [this, runFor_add, runFor_done ha]
  · have : a = b + (a - b) := by omega
    rw [this, runFor_add, runFor_done hb]

theorem drive {M : Model} {Q : Sre.M → Shared → Prop} : ∀ (turns : Nat) (m : Sre.M) (n : Nat), (m.runFor n).outcome.isSome = true → n ≤ 4 * turns → 0 < turns → Q (m.runFor n) s → wpAny M A (reDrive turns m) Q E s
  | 0, _, _, _, _, h, _ => absurd h (Nat.lt_irrefl _)
  | turns + 1, m, n, hn, hle, _, q => by
    show wpAny M A (if (m.runFor reTurnSteps).outcome.isSome = true then pure (m.runFor reTurnSteps) else (do rule "sre.turn"; reDrive turns (m.runFor reTurnSteps))) Q E s
    have e4 : reTurnSteps = 4 := rfl
    rw [e4]
    by_cases h4 : (m.runFor 4).outcome.isSome = true
    · rw [if_pos h4]
      rw [runFor_same hn h4] at q
      exact wpAny_pure q
    · rw [if_neg h4]
      refine wpAny_bind (wpAny_rule ?_)
      have hgt : 4 < n := by
        rcases Nat.lt_or_ge 4 n with h | h
        · exact h
        · exfalso
          have : (4 : Nat) = n + (4 - n) := by omega
          rw [this, runFor_add, runFor_done hn] at h4
          exact h4 hn
      have e : m.runFor n = (m.runFor 4).runFor (n - 4) := by
        have : n = 4 + (n - 4) := by omega
        rw [this, runFor_add, show 4 + (n - 4) - 4 = n - 4 by omega]
      rw [e] at hn q
      exact drive turns _ (n - 4) hn (by omega) (by omega) q

theorem quiet_for {M : Model} {Q : PUnit → Shared → Prop} {f : Nat → Bool} {g : Nat → String} (q : Q ⟨⟩ s) : ∀ l : List Nat,
    wpAny M A (forIn l PUnit.unit fun i (_ : PUnit) => if f i = true then (do rule (g i); pure (ForInStep.yield PUnit.unit)) else pure (ForInStep.yield PUnit.unit)) Q E s
  | [] => wpAny_pure q
  | a :: l => by
    rw [List.forIn_cons]
    refine wpAny_bind ?_
    split
    · exact wpAny_bind (wpAny_rule (wpAny_pure (quiet_for q l)))
    · exact wpAny_pure (quiet_for q l)

theorem runToEnd {M : Model} {m : Sre.M} {n : Nat} {r : Option (Nat × Nat)} {Q : Option Sre.M → Shared → Prop} (h : EndsIn m n r) (hn : n ≤ 1000000)
    (q : match r with | none => Q none s | some (a, b) => ∀ m' : Sre.M, m'.start = a → m'.handed = b → Q (some m') s) : wpAny M A (reRunToEnd m) Q E s := by
  unfold reRunToEnd
  refine wpAny_bind (drive _ m n h.some_outcome (Nat.le_trans hn (by decide)) (by decide) ?_)
  refine wpAny_bind (quiet_for ?_ _)
  unfold EndsIn at h
  split at h
  · rw [h]
    exact wpAny_pure q
  · rw [h.1]
    exact wpAny_pure (q _ h.2.1 h.2.2)
end
end Mine
end

section
open PySem PySem.Sre PySem.Builtin.Re
namespace Mine

structure IsPat (h : Heap) (p c : Addr) (code : Array Nat) : Prop where
  pat : ∃ f0 f1, h.get? p = some { cls := .type "re.Pattern", data := .fields #[f0, f1, .int 0 0, .none, .none, .ref c, .int 0 0] }
  code : h.get? c = some { cls := .type "tuple", data := .seq (code.map fun (k : Nat) => Value.int (k : Int) 0) }

theorem IsPat.keeps {h h' : Heap} {p c : Addr} {code : Array Nat} (x : IsPat h p c code) (k : ∀ b o, h.get? b = some o → h'.get? b = some o) : IsPat h' p c code :=
  ⟨x.pat.elim fun f0 e => e.elim fun f1 e => ⟨f0, f1, k _ _ e⟩, k _ _ x.code⟩

section
variable {M : Model} {A : Around} {E : Value → Shared → Prop} {s : Shared} {p c : Addr} {code : Array Nat}

def targetOf (p : Addr) (x : Str) (t : Tok) (code : Array Nat) : ReTarget := { pattern := .ref p, string := .str x t, code := code, text := x.cps, kind := 0, groups := 0, pos := 0, lim := x.cps.size }

theorem rawCode (code : Array Nat) : ((code.map fun (k : Nat) => Value.int (k : Int) 0).map reRawOf).map (·.toNat) = code := by
  simp [Array.map_map, Function.comp_def, reRawOf]

theorem wholeTarget (hp : IsPat s.heap p c code) {x : Str} {t : Tok} {Q : ReTarget → Shared → Prop} (h : Q (targetOf p x t code) s) : wpAny M A (reWholeTarget (.ref p) (.str x t)) Q E s := by
  obtain ⟨f0, f1, e⟩ := hp.pat
  unfold reWholeTarget
  refine wpAny_bind (wpAny_fieldsOf e rfl ?_)
  refine wpAny_bind (m := reTextOf (.str x t)) (wpAny_of_eq (a := (x.cps, 0)) rfl ?_)
  show wpAny M A (reNoCollectionInside (.str x t) 0 >>= fun _ => reRawItems (.ref c) >>= fun its => pure ({ pattern := .ref p, string := .str x t, code := its.map (·.toNat), text := x.cps, kind := 0, groups := 0, pos := 0, lim := x.cps.size } : ReTarget)) Q E s
  refine wpAny_bind (m := reNoCollectionInside (.str x t) 0) (wpAny_of_eq (a := ()) rfl ?_)
  unfold reRawItems
  refine wpAny_bind (wpAny_bind (wpAny_seqItems hp.code rfl (wpAny_pure (wpAny_pure ?_))))
  show Q { pattern := .ref p, string := .str x t, code := (((code.map fun (k : Nat) => Value.int (k : Int) 0)).map reRawOf).map (·.toNat), text := x.cps, kind := 0, groups := 0, pos := 0, lim := x.cps.size } s
  rw [rawCode]
  exact h
end

/-- what a search answers, and what the substitution makes of the rest -/
structure Finder (code : Array Nat) (rep : List Nat) (text : Array Nat) (out : Nat → List Nat) : Prop where
  find : ∀ st must, st ≤ text.size → ∃ n r, n ≤ 1000000 ∧ EndsIn (forSearch code text 0 st text.size must) n r ∧
    match r with
    | none => out st = text.toList.drop st
    | some (a, b) => st ≤ a ∧ a < b ∧ b ≤ text.size ∧ out st = (text.toList.drop st).take (a - st) ++ rep ++ out b

end Mine
end

section
open PySem PySem.Sre PySem.Builtin.Re PySem.Builtin PySem.Builtin.Str
namespace Mine

def S (l : List Nat) : Str := ⟨l.toArray⟩
theorem S_cps (x : Str) : S x.cps.toList = x := by cases x; simp [S]
theorem S_toList (l : List Nat) : (S l).cps.toList = l := by simp [S]
theorem S_length (l : List Nat) : (S l).length = l.length := by simp [S, Str.length]

theorem join_flat (sep : Str) (hs : sep.cps.toList = []) : ∀ texts : List Str, (Str.join sep texts).cps.toList = (texts.map (·.cps.toList)).flatten
  | [] => by simp [Str.join, Str.empty]
  | [x] => by simp [Str.join]
  | x :: y :: r => by
    have ih := join_flat sep hs (y :: r)
    show ((x ++ sep ++ Str.join sep (y :: r)).cps).toList = _
    rw [Str.cps_append, Str.cps_append, Array.toList_append, Array.toList_append, hs, ih]
    simp
theorem join_empty (sep : Str) (hs : sep.cps.toList = []) (texts : List Str) : Txt.join sep texts = S (texts.map (·.cps.toList)).flatten := by
  show glued sep texts = _
  rw [StrLaws.glued_eq_join, ← join_flat sep hs, S_cps]

theorem entry_sub_loop : entryFor table "re.Pattern.sub.loop" = some Builtin.«re.Pattern.sub.loop» := entryFor_of_tree (by kernel_rfl)
theorem plain_sub_loop : plainId "re.Pattern.sub.loop" = true := by decide +kernel

/-- all but one address stands -/
def But (pl : Addr) (s s' : Shared) : Prop := ∃ h' tk, s' = { s with heap := h', toks := tk } ∧ ∀ b o, b ≠ pl → s.heap.get? b = some o → h'.get? b = some o
theorem But.refl {pl : Addr} {s : Shared} : But pl s s := ⟨s.heap, s.toks, rfl, fun _ _ _ e => e⟩
theorem But.trans {pl : Addr} {s s' s'' : Shared} (a : But pl s s') (b : But pl s' s'') : But pl s s'' := by
  obtain ⟨h, t, rfl, k⟩ := a
  obtain ⟨h', t', rfl, k'⟩ := b
  exact ⟨h', t', rfl, fun b o n e => k' b o n (k b o n e)⟩
theorem But.toks {pl : Addr} {s s' : Shared} (a : But pl s s') (k : Nat) : But pl s { s' with toks := k } := by
  obtain ⟨h, t, rfl, k⟩ := a
  exact ⟨h, _, rfl, k⟩

section
variable {prog : Program} {w : World} {A : Around} {E : Value → Shared → Prop} {s : Shared}

theorem push_list {l : Addr} {items : Array Value} {x : Value} {Q : Unit → Shared → Prop} (hl : s.heap.IsList l items)
    (hQ : ∀ s', s'.heap.IsList l (items.push x) → But l s s' → Q () s') (hsz : items.size ≤ 1000000) : wpAny (model prog w) A (updateSeq l (·.push x)) Q E s := by
  obtain ⟨o, ho, hc, n, hd⟩ := id hl
  obtain ⟨n', hd'⟩ := Obj.data_mapSeq hd (·.push x)
  have hz : items.size ≤ sizeLine := by rw [sizeLine_eq]; omega
  refine wpAny_updateSeq ho hd (hQ _ ?_ ⟨_, _, rfl, fun b o n e => (Heap.SameBut.update ..).extBut b o n e⟩) hz (by simp; omega)
  exact ⟨_, Heap.get?_update_self _ ho (Obj.isFreed_of_seq hd'), (Obj.cls_mapSeq ..).trans hc, n', hd'⟩

def flat (l : List (Str × Tok)) : List Nat := (l.map (·.1.cps.toList)).flatten
theorem flat_snoc (l : List (Str × Tok)) (x : Str) (t : Tok) : flat (l ++ [(x, t)]) = flat l ++ x.cps.toList := by simp [flat]
theorem strValues_snoc (l : List (Str × Tok)) (x : Str) (t : Tok) : (strValues l).toArray.push (.str x t) = (strValues (l ++ [(x, t)])).toArray := by simp [strValues]

theorem extract_drop (a : Array Nat) (i j : Nat) : (a.extract i j).toList = (a.toList.drop i).take (j - i) := by
  simp [Array.toList_extract, List.extract_eq_take_drop]

set_option maxHeartbeats 1000000 in
theorem sub_loop {p c pl : Addr} {code : Array Nat} {x rep : Str} {t u : Tok} {out : Nat → List Nat} (F : Finder code rep.cps.toList x.cps out) (hx : x.cps.size ≤ 1000) (hrep : rep.length ≤ 1000)
    (hne : pl ≠ p) (hnc : pl ≠ c) :
    ∀ (k : Nat) (s : Shared) (R : Result → Shared → Prop) (st : Nat) (n : Int) (must : Bool) (l : List (Str × Tok)), x.cps.size - st = k → st ≤ x.cps.size → IsPat s.heap p c code → s.heap.IsList pl (strValues l).toArray →
    l.length ≤ 2 * st → (∀ y ∈ l, y.1.length ≤ 1000) →
    (∀ s' tk, But pl s s' → R (.ok (.ret (.str (S (flat l ++ out st)) tk))) s') →
    codeAny (model prog w) A (.builtin "re.Pattern.sub.loop" ⟨[.ref p, .str x t, .str rep u, rawInt 0, rawInt 0, rawInt n, rawInt st, rawInt st, .bool must, .ref pl, .bool false], []⟩) R s := by
  intro k
  induction k using Nat.strongRecOn with
  | ind k ih =>
    intro s R st n must l hk hst hp hl hlen hall h
    refine codeAny_builtin entry_sub_loop ?_
    rw [Around.under_plainId plain_sub_loop]
    show wpAny _ A.in1 (reWholeTarget (.ref p) (.str x t) >>= fun tt => _) _ _ s
    refine wpAny_bind (wholeTarget hp ?_)
    show wpAny _ A.in1 (reLiteralCannotBeTurned (.str rep u) >>= fun _ => _) _ _ s
    refine wpAny_bind (m := reLiteralCannotBeTurned (.str rep u)) (wpAny_of_eq (a := ()) rfl ?_)
    show wpAny _ A.in1 (reNextFound (targetOf p x t code) (st : Int).toNat must >>= fun r => _) _ _ s
    rw [Int.toNat_natCast]
    obtain ⟨m, r, hm, hend, hr⟩ := F.find st must hst
    refine wpAny_bind (m := reRunToEnd (forSearch code x.cps 0 st x.cps.size must)) (runToEnd hend hm ?_)
    have hlz : (strValues l).toArray.size ≤ 1000000 := by simp [strValues]; omega
    cases r with
    | none =>
      dsimp only at hr ⊢
      -- the tail
      have tail : ∀ (s₁ : Shared) (l₁ : List (Str × Tok)), But pl s s₁ → s₁.heap.IsList pl (strValues l₁).toArray → flat l₁ = flat l ++ out st → l₁.length ≤ 2 * st + 1 → (∀ y ∈ l₁, y.1.length ≤ 1000) →
          wpAny (model prog w) A.in1 (reSlice x.cps 0 0 0 >>= fun joiner => seqItems? (.ref pl) >>= fun its => if (its.getD #[]).isEmpty = true then pure joiner >>= fun text => ret text else call (.builtin "str.join") [joiner, .ref pl] >>= fun text => ret text)
            (fun fin s' => match fin with | .done f => R (.ok f) s' | .again c' => c'.quiet = true ∧ codeAny (model prog w) A c' R s') (fun e s' => R (.error e) s') s₁ := by
        intro s₁ l₁ b₁ hl₁ e₁ n₁ a₁
        refine wpAny_bind (m := mkStr ⟨x.cps.extract 0 0⟩) (wpAny_mkStr ?_ (by simp [Str.length]))
        obtain ⟨o, ho, hc, nn, hd⟩ := id hl₁
        refine wpAny_bind (wpAny_seqItems (s := { s₁ with toks := s₁.toks + 1 }) ho hd ?_)
        show wpAny _ _ (if ((strValues l₁).toArray).isEmpty = true then _ else _) _ _ _
        split
        · rename_i he
          have : l₁ = [] := by simpa [strValues] using he
          subst this
          refine wpAny_bind (wpAny_pure (wpAny_pure ?_))
          have e2 : S (flat l ++ out st) = ⟨x.cps.extract 0 0⟩ := by rw [← e₁]; simp [flat, S]
          have := h { s₁ with toks := s₁.toks + 1 } s₁.toks (b₁.toks _)
          rw [e2] at this
          exact this
        · refine wpAny_bind (SC.join (s := { s₁ with toks := s₁.toks + 1 }) hl₁ rfl ?_ fun t' k' => wpAny_pure ?_)
          · unfold JoinOk
            rw [StrLaws.joinFits (B := 1000)]
            · rfl
            · intro y hy; obtain ⟨z, hz, rfl⟩ := List.mem_map.mp hy; exact a₁ z hz
            · simp [Str.length]; omega
          · have e2 : Txt.join ⟨x.cps.extract 0 0⟩ (l₁.map (·.1)) = S (flat l ++ out st) := by
              rw [join_empty _ (by simp), ← e₁, flat, List.map_map]; rfl
            rw [e2]
            exact h _ _ (b₁.toks _)
      show wpAny _ A.in1 (if (st : Int).toNat < x.cps.size then _ else _) _ _ s
      rw [Int.toNat_natCast]
      split
      · rename_i hlt
        show wpAny _ A.in1 (reSlice x.cps 0 st x.cps.size >>= fun v => updateSeq pl (·.push v) >>= fun _ => _) _ _ s
        refine wpAny_bind (m := mkStr ⟨x.cps.extract st x.cps.size⟩) (wpAny_mkStr ?_ (by rw [sizeLine_eq]; simp [Str.length]; omega))
        refine wpAny_bind (push_list (s := { s with toks := s.toks + 1 }) hl (fun s' hl' b' => ?_) hlz)
        rw [strValues_snoc] at hl'
        refine tail s' _ (But.trans (But.toks .refl _) b') hl' ?_ (by simp; omega) ?_
        · rw [flat_snoc, hr]
          congr 1
          rw [extract_drop]
          exact List.take_of_length_le (by simp)
        · intro y hy
          rcases List.mem_append.mp hy with hy | hy
          · exact hall y hy
          · simp at hy; subst hy; simp [Str.length]; omega
      · refine tail s l .refl hl ?_ (by omega) hall
        rw [hr, List.drop_eq_nil_of_le (by simp; omega), List.append_nil]
    | some q =>
      obtain ⟨a, b⟩ := q
      dsimp only at hr ⊢
      obtain ⟨h1, h2, h3, h4⟩ := hr
      intro m' ha hb
      subst ha hb
      have rest : ∀ (s₁ : Shared) (l₁ : List (Str × Tok)), But pl s s₁ → s₁.heap.IsList pl (strValues l₁).toArray → flat l₁ = flat l ++ (x.cps.toList.drop st).take (m'.start - st) → l₁.length ≤ l.length + 1 → (∀ y ∈ l₁, y.1.length ≤ 1000) →
          wpAny (model prog w) A.in1 (updateSeq pl (·.push (.str rep u)) >>= fun _ => again (.builtin "re.Pattern.sub.loop" ⟨[.ref p, .str x t, .str rep u, rawInt 0, rawInt 0, rawInt (n + 1), rawInt m'.handed, rawInt m'.handed, .bool (m'.handed == m'.start), .ref pl, .bool false], []⟩))
            (fun fin s' => match fin with | .done f => R (.ok f) s' | .again c' => c'.quiet = true ∧ codeAny (model prog w) A c' R s') (fun e s' => R (.error e) s') s₁ := by
        intro s₁ l₁ b₁ hl₁ e₁ n₁ a₁
        refine wpAny_bind (push_list hl₁ (fun s' hl' b' => ?_) (by simp [strValues]; omega))
        rw [strValues_snoc] at hl'
        refine wpAny_pure ⟨plainId_quiet plain_sub_loop _, ?_⟩
        have b2 := But.trans b₁ b'
        obtain ⟨h'', tk'', es, kp⟩ := id b2
        refine ih (x.cps.size - m'.handed) (by omega) s' R m'.handed (n + 1) (m'.handed == m'.start) _ rfl h3 ?_ hl' ?_ ?_ ?_
        · subst es
          obtain ⟨f0, f1, e0⟩ := hp.pat
          exact ⟨⟨f0, f1, kp _ _ hne.symm e0⟩, kp _ _ hnc.symm hp.code⟩
        · simp; omega
        · intro y hy
          rcases List.mem_append.mp hy with hy | hy
          · exact a₁ y hy
          · simp at hy; subst hy; exact hrep
        · intro s'' tk b3
          have := h s'' tk (But.trans b2 b3)
          rw [flat_snoc, e₁]
          rw [h4] at this
          simpa using this
      show wpAny _ A.in1 (if (st : Int).toNat < m'.start then _ else _) _ _ s
      rw [Int.toNat_natCast]
      split
      · rename_i hlt
        show wpAny _ A.in1 (reSlice x.cps 0 (st : Int).toNat m'.start >>= fun v => updateSeq pl (·.push v) >>= fun _ => _) _ _ s
        rw [Int.toNat_natCast]
        refine wpAny_bind (m := mkStr ⟨x.cps.extract st m'.start⟩) (wpAny_mkStr ?_ (by rw [sizeLine_eq]; simp [Str.length]; omega))
        refine wpAny_bind (push_list (s := { s with toks := s.toks + 1 }) hl (fun s' hl' b' => ?_) hlz)
        rw [strValues_snoc] at hl'
        refine rest s' _ (But.trans (But.toks .refl _) b') hl' ?_ (by simp) ?_
        · rw [flat_snoc, extract_drop]
        · intro y hy
          rcases List.mem_append.mp hy with hy | hy
          · exact hall y hy
          · simp at hy; subst hy; simp [Str.length]; omega
      · refine rest s l .refl hl ?_ (by omega) hall
        rw [show m'.start - st = 0 by omega]; simp
end
end Mine
end

section
open PySem PySem.Sre PySem.Builtin.Re PySem.Builtin PySem.Builtin.Str
namespace Mine

theorem plainAttrs_pat : PlainAttrs "re.Pattern" :=
  ⟨⟨"object.__getattribute__", by rw [typeLookup_type, builtinLookup_eq_fast]; kernel_rfl, by decide +kernel⟩, by rw [typeLookup_type, builtinLookup_eq_fast]; kernel_rfl⟩
theorem owner_pat : Manifest.owners.lookup (String.ofList ['n', 'r', 'e', 't', 't', 'a', 'P', '.', 'e', 'r'].reverse) = some Manifest.sig_re_Pattern := by kernel_rfl
theorem slot_pat_sub : Slot "re.Pattern" "sub" "re.Pattern.sub" :=
  .of (owner := "re.Pattern") (n := "sub") (by rw [typeLookup_type, builtinLookup_eq_fast]; kernel_rfl) (by decide +kernel) (by decide +kernel) (by decide +kernel)
    (by first | exact .inl (by decide +kernel) | exact .inr (by decide +kernel)) (by rw [isSubtype_type]; kernel_rfl)
theorem type_pat_sub : typeOf (.builtin "re.Pattern.sub") = pure (.type "method_descriptor") := by show builtinType _ = _; rw [builtinType_eq_fast]; kernel_rfl
theorem entry_pat_sub : entryFor table "re.Pattern.sub" = some Builtin.«re.Pattern.sub» := entryFor_of_tree (by kernel_rfl)
theorem args_pat_sub (a b c : Value) : argsOk "re.Pattern.sub" ⟨[a, b, c], []⟩ := by
  unfold argsOk; rw [signature?_of (id := "re.Pattern.sub") (n := ['b', 'u', 's']) (o := ['n', 'r', 'e', 't', 't', 'a', 'P', '.', 'e', 'r']) (by kernel_rfl) owner_pat]; kernel_rfl
theorem noCall_str : typeLookup (.type "str") "__call__" = pure none := by rw [typeLookup_type, builtinLookup_eq_fast]; kernel_rfl

theorem named_sub (a b : Value) : reNamed "re.Pattern.sub" "sub" ["repl", "string", "count"] 2 [a, b] [] = pure [some a, some b, none] := by rfl

section
variable {prog : Program} {w : World} {A : Around} {E : Value → Shared → Prop} {s : Shared}

theorem method_sub {p c : Addr} {code : Array Nat} {pl : Sem Bool} {Q : Value × List Value → Shared → Prop} {M : Model} (hp : IsPat s.heap p c code) (h : Q (.builtin "re.Pattern.sub", [.ref p]) s) : wpAny M A (getMethod (.ref p) "sub" pl) Q E s := by
  obtain ⟨f0, f1, e⟩ := hp.pat
  exact getMethod_builtin ⟨_, e, rfl⟩ plainAttrs_pat slot_pat_sub type_pat_sub (fun a ea => by cases ea; exact ⟨_, e, rfl⟩) h

theorem call_sub {p c : Addr} {code : Array Nat} {x rep : Str} {t u : Tok} {out : Nat → List Nat} {Q : Value → Shared → Prop} (hp : IsPat s.heap p c code) (F : Finder code rep.cps.toList x.cps out) (hx : x.cps.size ≤ 1000) (hrep : rep.length ≤ 1000)
    (hlit : rep.cps.contains 92 = false) (h : ∀ s' tk, Keeps s s' → Q (.str (S (out 0)) tk) s') : wpAny (model prog w) A (call (.builtin "re.Pattern.sub") [.ref p, .str rep u, .str x t]) Q E s := by
  obtain ⟨f0, f1, e⟩ := id hp.pat
  refine wpAny_call (codeAny_call_builtin slot_pat_sub.plain entry_pat_sub (slot_pat_sub.check _ _ _ _ _ _ _ _ ⟨_, e, rfl⟩ (args_pat_sub _ _ _) ?_))
  show wpAny _ A.in1 (reNamed "re.Pattern.sub" "sub" ["repl", "string", "count"] 2 [.str rep u, .str x t] [] >>= _) _ _ s
  refine wpAny_bind (wpAny_of_eq (named_sub _ _) ?_)
  refine wpAny_bind (m := pure (0 : Int)) (wpAny_pure ?_)
  refine wpAny_bind (wpAny_specialOf (typeIs_str _ _ _) noCall_str ?_)
  refine wpAny_bind (m := asStr? (.str rep u)) (wpAny_of_eq (a := some rep) rfl ?_)
  refine wpAny_bind (m := pure (!rep.cps.contains 92)) (wpAny_pure ?_)
  rw [hlit]
  refine wpAny_bind (m := pure (Value.str rep u, (0 : Int))) (wpAny_pure ?_)
  refine wpAny_bind (m := holding [.str rep u] (reWholeTarget (.ref p) (.str x t))) (wpAny_holding (wholeTarget hp ?_))
  refine wpAny_bind (m := newList []) (wpAny_newObj_type ?_)
  refine wpAny_pure ⟨plainId_quiet plain_sub_loop _, ?_⟩
  have hpl : s.heap.objs.size ≠ p := Nat.ne_of_gt (Heap.lt_size e)
  have hcl : s.heap.objs.size ≠ c := Nat.ne_of_gt (Heap.lt_size hp.code)
  refine sub_loop F hx hrep hpl hcl x.cps.size _ _ 0 0 false [] (by omega) (Nat.zero_le _) (hp.keeps fun b o e => Heap.get?_push_of_some _ e) ⟨_, Heap.get?_push_size _ rfl, rfl, _, rfl⟩ (by simp) (by simp) ?_
  intro s' tk b
  obtain ⟨h', tk', rfl, k⟩ := b
  refine h _ tk ⟨h', tk', rfl, fun b o e => ?_⟩
  exact k b o (Nat.ne_of_lt (Heap.lt_size e)) (Heap.get?_push_of_some _ e)
end
end Mine
end

section
open PySem PySem.Sre PySem.Builtin.Re PySem.Builtin PySem.Builtin.Str
namespace Mine

/-- each end of line as a carriage return and a line feed (the flag: the sign ahead was a carriage return) -/
def fixS : Bool → List Nat → List Nat
  | _, [] => []
  | b, c :: r => if c = 13 then 13 :: 10 :: fixS true r else if c = 10 then (if b then fixS false r else 13 :: 10 :: fixS false r) else c :: fixS false r
/-- a dot more at a line's start (the flag: here a line starts) -/
def qd : Bool → List Nat → List Nat
  | _, [] => []
  | b, c :: r => (if b && c == 46 then [46, 46] else [c]) ++ qd (c == 10) r

theorem drop_cons (t : Array Nat) (i : Nat) (h : i < t.size) : t.toList.drop i = t.getD i 0 :: t.toList.drop (i + 1) := by
  rw [List.drop_eq_getElem_cons (by simpa using h)]
  simp [Array.getD, h]

theorem out_run {text : Array Nat} {out : Nat → List Nat} {a : Nat} (ha : a ≤ text.size) : ∀ (k st : Nat), st + k = a → (∀ i, st ≤ i → i < a → out i = text.getD i 0 :: out (i + 1)) → out st = (text.toList.drop st).take (a - st) ++ out a
  | 0, st, e, _ => by have : st = a := by omega
                      subst this; simp
  | k + 1, st, e, h => by
    rw [h st (Nat.le_refl _) (by omega), out_run ha k (st + 1) (by omega) fun i h1 h2 => h i (by omega) h2, drop_cons text st (by omega), show a - st = (a - (st + 1)) + 1 by omega, List.take_succ_cons]
    rfl

theorem finder2 (text : Array Nat) (hz : text.size ≤ 1000) : Finder code2 [13, 10] text (fun st => fixS false (text.toList.drop st)) where
  find := fun st must hst => by
    obtain ⟨n, r, hn, he, hs⟩ := found2 text text.size st must hst
    refine ⟨n, r, by omega, he, ?_⟩
    have stepOut : ∀ i, i < text.size → eol (text.getD i 0) = false → fixS false (text.toList.drop i) = text.getD i 0 :: fixS false (text.toList.drop (i + 1)) := by
      intro i hi hc
      rw [drop_cons _ _ hi, fixS]
      have h1 : ¬ text.getD i 0 = 13 := by intro e; rw [e] at hc; simp [eol] at hc
      have h2 : ¬ text.getD i 0 = 10 := by intro e; rw [e] at hc; simp [eol] at hc
      rw [if_neg h1, if_neg h2]
    cases r with
    | none =>
      have := out_run (out := fun st => fixS false (text.toList.drop st)) (Nat.le_refl text.size) (text.size - st) st (by omega) fun i h1 h2 => stepOut i h2 (hs i h1 h2)
      dsimp only at this ⊢
      rw [this, List.drop_eq_nil_of_le (show text.toList.length ≤ text.size by simp)]
      simp only [fixS, List.append_nil]
      exact List.take_of_length_le (by simp)
    | some p =>
      obtain ⟨a, b⟩ := p
      obtain ⟨h1, h2, h3, h4, h5⟩ := hs
      have run := out_run (out := fun st => fixS false (text.toList.drop st)) (Nat.le_of_lt h2) (a - st) st (by omega) fun i h6 h7 => stepOut i (by omega) (h5 i h6 h7)
      dsimp only at run ⊢
      have hb : a < b ∧ b ≤ text.size := by
        rw [h3]
        unfold eolEnd
        by_cases q : text.getD a 0 = 13 ∧ a + 1 < text.size ∧ text.getD (a + 1) 0 = 10
        · rw [if_pos q]; omega
        · rw [if_neg q]; omega
      refine ⟨h1, hb.1, hb.2, ?_⟩
      rw [run, List.append_assoc]
      congr 1
      rw [drop_cons _ _ h2, fixS]
      have hc : text.getD a 0 = 10 ∨ text.getD a 0 = 13 := by simpa [eol] using h4
      rcases hc with hc | hc
      · have : b = a + 1 := by rw [h3]; unfold eolEnd; rw [if_neg (by omega)]
        rw [if_neg (by omega), if_pos hc, this]; rfl
      · rw [if_pos hc]
        by_cases h6 : a + 1 < text.size ∧ text.getD (a + 1) 0 = 10
        · have : b = a + 2 := by rw [h3]; unfold eolEnd; rw [if_pos ⟨hc, h6⟩]
          rw [this, drop_cons _ _ h6.1, fixS, if_neg (by omega), if_pos h6.2]
          rfl
        · have : b = a + 1 := by rw [h3]; unfold eolEnd; rw [if_neg (fun h => h6 h.2)]
          rw [this]
          have : fixS true (text.toList.drop (a + 1)) = fixS false (text.toList.drop (a + 1)) := by
            by_cases h7 : a + 1 < text.size
            · rw [drop_cons _ _ h7, fixS, fixS]
              have : ¬ text.getD (a + 1) 0 = 10 := fun e => h6 ⟨h7, e⟩
              rw [if_neg this, if_neg this]
            · rw [List.drop_eq_nil_of_le (by simp; omega)]; rfl
          rw [this]; rfl

theorem finder1 (text : Array Nat) (hz : text.size ≤ 1000) : Finder code1 [46, 46] text (fun st => qd (st == 0 || text.getD (st - 1) 0 == 10) (text.toList.drop st)) where
  find := fun st must hst => by
    obtain ⟨n, r, hn, he, hs⟩ := found1 text text.size st must hst
    refine ⟨n, r, by omega, he, ?_⟩
    have next : ∀ i, qd (i + 1 == 0 || text.getD (i + 1 - 1) 0 == 10) (text.toList.drop (i + 1)) = qd (text.getD i 0 == 10) (text.toList.drop (i + 1)) := by
      intro i
      rw [show (i + 1 == 0) = false by simp, Bool.false_or, show i + 1 - 1 = i by omega]
    have stepOut : ∀ i, i < text.size → hit1 text i = false → qd (i == 0 || text.getD (i - 1) 0 == 10) (text.toList.drop i) = text.getD i 0 :: qd (i + 1 == 0 || text.getD (i + 1 - 1) 0 == 10) (text.toList.drop (i + 1)) := by
      intro i hi hc
      unfold hit1 at hc
      rw [next, drop_cons _ _ hi, qd, hc]
      rfl
    cases r with
    | none =>
      have := out_run (out := fun st => qd (st == 0 || text.getD (st - 1) 0 == 10) (text.toList.drop st)) (Nat.le_refl text.size) (text.size - st) st (by omega) fun i h1 h2 => stepOut i h2 (hs i h1 h2)
      dsimp only at this ⊢
      rw [this, List.drop_eq_nil_of_le (show text.toList.length ≤ text.size by simp)]
      simp only [qd, List.append_nil]
      exact List.take_of_length_le (by simp)
    | some p =>
      obtain ⟨a, b⟩ := p
      obtain ⟨h1, h2, h3, h4, h5⟩ := hs
      have run := out_run (out := fun st => qd (st == 0 || text.getD (st - 1) 0 == 10) (text.toList.drop st)) (Nat.le_of_lt h2) (a - st) st (by omega) fun i h6 h7 => stepOut i (by omega) (h5 i h6 h7)
      dsimp only at run ⊢
      refine ⟨h1, by omega, by omega, ?_⟩
      rw [run, List.append_assoc]
      congr 1
      unfold hit1 at h4
      rw [h3, next, drop_cons _ _ h2, qd, h4]
      rfl

section
variable {prog : Program} {w : World} {A : Around} {E : Value → Shared → Prop} {s : Shared} {Q : Value → Shared → Prop} {x : Str} {t u : Tok} {p c : Addr}

/-- what the first substitution gives of a whole text -/
theorem call_sub2 (hp : IsPat s.heap p c code2) (hx : x.cps.size ≤ 1000) (h : ∀ s' tk, Keeps s s' → Q (.str (S (fixS false x.cps.toList)) tk) s') :
    wpAny (model prog w) A (call (.builtin "re.Pattern.sub") [.ref p, .str (S [13, 10]) u, .str x t]) Q E s :=
  call_sub hp (by simpa [S] using finder2 x.cps hx) hx (by simp [S, Str.length]) (by simp [S]) (by simpa using h)

theorem call_sub1 (hp : IsPat s.heap p c code1) (hx : x.cps.size ≤ 1000) (h : ∀ s' tk, Keeps s s' → Q (.str (S (qd true x.cps.toList)) tk) s') :
    wpAny (model prog w) A (call (.builtin "re.Pattern.sub") [.ref p, .str (S [46, 46]) u, .str x t]) Q E s :=
  call_sub hp (by simpa [S] using finder1 x.cps hx) hx (by simp [S, Str.length]) (by simp [S]) (by simpa using h)
end
end Mine
end

section
open PySem PySem.Builtin PySem.Builtin.Str
namespace Mine

def topAt (i : Nat) : Stmt := PySem.Challenge.pw_mj0036_01.main.body.getD i (.Pass ⟨0, 0, 0, 0⟩)
def paramsOf : Stmt → Arguments
  | .FunctionDef _ a _ _ _ _ _ _ _ _ => a
  | _ => { posonlyargs := [], args := [], vararg := none, kwonlyargs := [], kw_defaults := [], kwarg := none, defaults := [] }
def bodyOf : Stmt → List Stmt
  | .FunctionDef _ _ b _ _ _ _ _ _ _ => b
  | _ => []
def scopeOf : Stmt → Scope
  | .FunctionDef _ _ _ _ _ _ s _ _ _ => s
  | _ => { kind := .function, names := [], isGenerator := false, isCoroutine := false, more := [] }
/-- a def of the text -/
def mkFd (i : Nat) (nm : Str) (dV : Value) (cd : Addr) (pm : Value) : FuncData :=
  { name := nm, qualname := nm, params := paramsOf (topAt i), body := .stmts (bodyOf (topAt i)), scope := scopeOf (topAt i), globals := mainGlobals, closure := [], defaults := dV, kwdefaults := .none, pyModule := pm, code := .ref cd, builtins := builtinsNs }

structure FnAt (h : Heap) (a : Addr) (i : Nat) (nm : Str) (dV : Value) (cd : Addr) : Prop where
  get : ∃ pm o, h.get? a = some o ∧ o.data = .func (mkFd i nm dV cd pm)
  code : h.CodeRec (.ref cd) nm

structure Wd (mg mb : Str → Option Value) (h : Heap) : Prop where
  g : h.Ns mainGlobals mg
  b : h.Ns builtinsNs mb
  nolimit : h.NoLimit
  zip : mg "zip" = none ∧ mb "zip" = some (.type "zip")
  map : mg "map" = none ∧ mb "map" = some (.type "map")
  str : mg "str" = none ∧ mb "str" = some (.type "str")
  enum : mg "enumerate" = none ∧ mb "enumerate" = some (.type "enumerate")
  crlf : ∃ t, mg "CRLF" = some (.str (S [13, 10]) t)
  re1 : mg "_twin_re_1" = some (.ref 44)
  re2 : mg "_twin_re_2" = some (.ref 49)
  pat1 : IsPat h 44 43 code1
  pat2 : IsPat h 49 48 code2
  cap : mg "capwords" = some (.ref 39)
  quo : mg "quotedata" = some (.ref 56)
  fix : mg "_fix_eols" = some (.ref 63)
  rows : mg "_law_rows" = some (.ref 70)
  great : mg "_law_great" = some (.ref 75)
  words : mg "_law_words" = some (.ref 80)
  fcap : FnAt h 39 2 "capwords" (.ref 32) 38
  tup : h.get? 32 = some { cls := .type "tuple", data := .seq #[.none] }
  fquo : FnAt h 56 7 "quotedata" .none 55
  ffix : FnAt h 63 8 "_fix_eols" .none 62
  frows : FnAt h 70 10 "_law_rows" .none 69
  fgreat : FnAt h 75 11 "_law_great" .none 74
  fwords : FnAt h 80 12 "_law_words" .none 79

theorem FnAt.keeps {h h' : Heap} {a i nm dV cd} (x : FnAt h a i nm dV cd) (k : ∀ b o, h.get? b = some o → h'.get? b = some o) : FnAt h' a i nm dV cd :=
  ⟨x.get.elim fun pm e => e.elim fun o e => ⟨pm, o, k _ _ e.1, e.2⟩, x.code.keeps k⟩
theorem Wd.keeps {mg mb : Str → Option Value} {h h' : Heap} (W : Wd mg mb h) (k : ∀ b o, h.get? b = some o → h'.get? b = some o) : Wd mg mb h' :=
  ⟨W.g.keeps k, W.b.keeps k, W.nolimit.keeps k, W.zip, W.map, W.str, W.enum, W.crlf, W.re1, W.re2, W.pat1.keeps k, W.pat2.keeps k, W.cap, W.quo, W.fix, W.rows, W.great, W.words,
    W.fcap.keeps k, k _ _ W.tup, W.fquo.keeps k, W.ffix.keeps k, W.frows.keeps k, W.fgreat.keeps k, W.fwords.keeps k⟩

theorem kRefl {s : Shared} : Keeps s s := ⟨s.heap, s.toks, rfl, fun _ _ e => e⟩
theorem kTrans {s s' s'' : Shared} (a : Keeps s s') (b : Keeps s' s'') : Keeps s s'' := by
  obtain ⟨h, t, rfl, k⟩ := a
  obtain ⟨h', t', rfl, k'⟩ := b
  exact ⟨h', t', rfl, fun b o e => k' b o (k b o e)⟩
theorem kGet {s s' : Shared} (a : Keeps s s') {b : Addr} {o : Obj} (e : s.heap.get? b = some o) : s'.heap.get? b = some o := by
  obtain ⟨h, t, rfl, k⟩ := a
  exact k b o e
theorem kAll {s s' : Shared} (a : Keeps s s') : ∀ b o, s.heap.get? b = some o → s'.heap.get? b = some o := fun _ _ e => kGet a e
theorem kOf {s : Shared} {h : Heap} {tk : Nat} (k : ∀ b o, s.heap.get? b = some o → h.get? b = some o) : Keeps s { s with heap := h, toks := tk } := ⟨h, tk, rfl, k⟩
theorem kTok {s : Shared} {tk : Nat} : Keeps s { s with toks := tk } := ⟨s.heap, tk, rfl, fun _ _ e => e⟩

section
variable {prog : Program} {w : World} {A : Around} {E : Value → Shared → Prop} {s : Shared} {mg mb : Str → Option Value} {env : Env} {Q : Value → Shared → Prop}

theorem nameG {x : Str} {pos : Pos} {v : Value} (W : Wd mg mb s.heap) (hv : mg x = some v) (h : Q v s) (hk : env.scope.kind = .function := by rfl) (hx : env.kindOf x = some .globalImplicit := by rfl) (hg : env.globals = mainGlobals := by rfl)
    (hd : (x == ("__debug__" : Str)) = false := by decide) : wpAny (model prog w) A (eval (.Name x pos) env) Q E s :=
  Calls.Name_function_global hk hx (Calls.loadGlobal_global (by rw [hg]; exact W.g) hv h) hd
theorem nameB {x : Str} {pos : Pos} {v : Value} (W : Wd mg mb s.heap) (hv : mg x = none ∧ mb x = some v) (h : Q v s) (hk : env.scope.kind = .function := by rfl) (hx : env.kindOf x = some .globalImplicit := by rfl) (hg : env.globals = mainGlobals := by rfl)
    (hb : env.builtins = builtinsNs := by rfl) (hd : (x == ("__debug__" : Str)) = false := by decide) : wpAny (model prog w) A (eval (.Name x pos) env) Q E s :=
  Calls.Name_function_global hk hx (Calls.loadGlobal_builtin (by rw [hg]; exact W.g) hv.1 (by rw [hb]; exact W.b) hv.2 h) hd
theorem nameL {x : Str} {pos : Pos} {v : Value} {m : Str → Option Value} (hn : s.heap.Ns env.locals m) (hv : m x = some v) (h : Q v s) (hk : env.scope.kind = .function := by rfl) (hx : env.kindOf x = some .local := by rfl)
    (hd : (x == ("__debug__" : Str)) = false := by decide) : wpAny (model prog w) A (eval (.Name x pos) env) Q E s :=
  wpAny_Name (wpAny_loadName_local hk hx hn hv h) hd

/-- the call of a def of the text: its body, from a frame of its own -/
theorem enter {a : Addr} {i : Nat} {nm : Str} {dV : Value} {cd : Addr} {args : List Value} {binds : List (Str × Value)} (W : Wd mg mb s.heap) (hf : FnAt s.heap a i nm dV cd) (hroom : A.depth ≤ 500)
    (hbind : ∀ pm, BindsTo s (mkFd i nm dV cd pm) ⟨args, []⟩ binds)
    (hcell : ∀ x ∈ (scopeOf (topAt i)).names, x.2 ≠ .cell) (hloc : ∀ x ∈ binds, (scopeOf (topAt i)).names.lookup x.1 = some .local)
    (h : ∀ pm L s₁, s₁.heap.Ns L (fun x => binds.reverse.lookup x) → s.heap.objs.size ≤ L → Keeps s s₁ →
      wpAny (model prog w) (A.deeper (callEnv (mkFd i nm dV cd pm) L a)) (execs (bodyOf (topAt i)) (callEnv (mkFd i nm dV cd pm) L a)) (fun f s' => Q (match f with | .ret v => v | _ => .none) s') (fun _ _ => False) s₁)
    (hco : (scopeOf (topAt i)).isCoroutine = false := by rfl) (hgen : (scopeOf (topAt i)).isGenerator = false := by rfl) (hk : (scopeOf (topAt i)).kind = .function := by rfl) :
    wpAny (model prog w) A (call (.ref a) args) Q E s := by
  obtain ⟨pm, o, ho, hd⟩ := hf.get
  refine wpAny_call (codeAny_call_def (fd := mkFd i nm dV cd pm) (body := bodyOf (topAt i)) (binds := binds) (by show A.depth < 1000; omega) ho hd W.nolimit hf.code rfl (hbind pm) hcell hloc (fun h₀ hns hk₀ => ?_) hco hgen hk)
  exact wpAny_mono (h pm _ { s with heap := h₀, toks := s.toks + binds.length } hns (Nat.le_refl _) (kOf hk₀)) (fun _ _ x => x) fun _ _ x => x.elim
end
end Mine
end

section
open PySem PySem.Builtin PySem.Builtin.Str
namespace Mine

section
variable {M : Model} {A : Around} {E : Value → Shared → Prop} {s : Shared} {env : Env} {Q : Value → Shared → Prop} {pos : Pos} {first : List Value} {e e1 e2 : Expr}
theorem cwB1 {id : String} (h : wpAny M A (eval e env) (fun v s₁ => wpAny M A (call (.builtin id) (first ++ [v])) Q E s₁) E s) (he : backTo pos (starEach [e] env) = [(false, eval e env)] := by rfl) :
    wpAny M A (callWith pos (.builtin id) first (backTo pos (starEach [e] env)) []) Q E s := by
  rw [he]
  exact Calls.callWith_builtin rfl (Calls.evalArgs_plain (Calls.spliced_cons (wpAny_mono h (fun _ _ h => Calls.spliced_nil h) fun _ _ x => x)))
theorem cwB2 {id : String} (h : wpAny M A (eval e1 env) (fun v s₁ => wpAny M A (eval e2 env) (fun v2 s₂ => wpAny M A (call (.builtin id) (first ++ [v, v2])) Q E s₂) E s₁) E s)
    (he : backTo pos (starEach [e1, e2] env) = [(false, eval e1 env), (false, eval e2 env)] := by rfl) :
    wpAny M A (callWith pos (.builtin id) first (backTo pos (starEach [e1, e2] env)) []) Q E s := by
  rw [he]
  exact Calls.callWith_builtin rfl (Calls.evalArgs_plain (Calls.spliced_cons (wpAny_mono h (fun _ _ h => Calls.spliced_cons (wpAny_mono h (fun _ _ h => Calls.spliced_nil h) fun _ _ x => x)) fun _ _ x => x)))
theorem cwT1 {T : String} (h : wpAny M A (eval e env) (fun v s₁ => wpAny M A (call (.type T) (first ++ [v])) Q E s₁) E s) (he : backTo pos (starEach [e] env) = [(false, eval e env)] := by rfl) :
    wpAny M A (callWith pos (.type T) first (backTo pos (starEach [e] env)) []) Q E s := by
  rw [he]
  exact callWith_type rfl (Calls.evalArgs_plain (Calls.spliced_cons (wpAny_mono h (fun _ _ h => Calls.spliced_nil h) fun _ _ x => x)))
theorem cwT2 {T : String} (h : wpAny M A (eval e1 env) (fun v s₁ => wpAny M A (eval e2 env) (fun v2 s₂ => wpAny M A (call (.type T) (first ++ [v, v2])) Q E s₂) E s₁) E s)
    (he : backTo pos (starEach [e1, e2] env) = [(false, eval e1 env), (false, eval e2 env)] := by rfl) :
    wpAny M A (callWith pos (.type T) first (backTo pos (starEach [e1, e2] env)) []) Q E s := by
  rw [he]
  exact callWith_type rfl (Calls.evalArgs_plain (Calls.spliced_cons (wpAny_mono h (fun _ _ h => Calls.spliced_cons (wpAny_mono h (fun _ _ h => Calls.spliced_nil h) fun _ _ x => x)) fun _ _ x => x)))
theorem cwF1 {a : Addr} {i : Nat} {nm : Str} {dV : Value} {cd : Addr} (h : wpAny M A (eval e env) (fun v s₁ => FnAt s₁.heap a i nm dV cd ∧ wpAny M A (call (.ref a) (first ++ [v])) Q E s₁) E s) (he : backTo pos (starEach [e] env) = [(false, eval e env)] := by rfl) :
    wpAny M A (callWith pos (.ref a) first (backTo pos (starEach [e] env)) []) Q E s := by
  rw [he]
  unfold callWith
  refine wpAny_bind (wpAny_holding (Calls.evalArgs_plain (Calls.spliced_cons (wpAny_mono h (fun v s₁ h₁ => Calls.spliced_nil (wpAny_bind (wpAny_standAt ?_))) fun _ _ x => x))))
  obtain ⟨⟨⟨pm, o, ho, hd⟩, _⟩, hc⟩ := h₁
  refine wpAny_bind (m := keeperOf (.ref a)) ?_
  unfold keeperOf
  refine wpAny_bind (wpAny_load ho ?_)
  rw [hd]
  refine wpAny_pure ?_
  exact wpAny_bind (by unfold callMarked; exact Calls.wpAny_keep (wpAny_mono hc (fun r s₂ hr => wpAny_bind (wpAny_holding (wpAny_point (wpAny_pure hr)))) fun _ _ x => x))
theorem cwF2 {a : Addr} {i : Nat} {nm : Str} {dV : Value} {cd : Addr} (h : wpAny M A (eval e1 env) (fun v s₁ => wpAny M A (eval e2 env) (fun v2 s₂ => FnAt s₂.heap a i nm dV cd ∧ wpAny M A (call (.ref a) (first ++ [v, v2])) Q E s₂) E s₁) E s)
    (he : backTo pos (starEach [e1, e2] env) = [(false, eval e1 env), (false, eval e2 env)] := by rfl) :
    wpAny M A (callWith pos (.ref a) first (backTo pos (starEach [e1, e2] env)) []) Q E s := by
  rw [he]
  unfold callWith
  refine wpAny_bind (wpAny_holding (Calls.evalArgs_plain (Calls.spliced_cons (wpAny_mono h (fun v s₁ h => Calls.spliced_cons (wpAny_mono h (fun v2 s₁ h₁ => Calls.spliced_nil (wpAny_bind (wpAny_standAt ?_))) fun _ _ x => x)) fun _ _ x => x))))
  obtain ⟨⟨⟨pm, o, ho, hd⟩, _⟩, hc⟩ := h₁
  refine wpAny_bind (m := keeperOf (.ref a)) ?_
  unfold keeperOf
  refine wpAny_bind (wpAny_load ho ?_)
  rw [hd]
  refine wpAny_pure ?_
  exact wpAny_bind (by unfold callMarked; exact Calls.wpAny_keep (wpAny_mono hc (fun r s₂ hr => wpAny_bind (wpAny_holding (wpAny_point (wpAny_pure hr)))) fun _ _ x => x))
/-- a call of a name -/
theorem callN {x : Str} {p : Pos} {args : List Expr} (h : wpAny M A (eval (.Name x p) env) (fun f s₁ => wpAny M A (callWith pos f [] (backTo pos (starEach args env)) []) Q E s₁) E s) :
    wpAny M A (eval (.Call (.Name x p) args [] pos) env) Q E s := by
  rw [arm_eval_Call_Name']
  exact wpAny_bind h
end
section
variable {prog : Program} {w : World} {A : Around} {E : Value → Shared → Prop} {s : Shared} {mg mb : Str → Option Value} {Q : Value → Shared → Prop}

theorem method_pat {env : Env} {x : Str} {np apos pos : Pos} {args : List Expr} {a c : Addr} {code : Array Nat} (W : Wd mg mb s.heap) (hv : mg x = some (.ref a)) (hp : IsPat s.heap a c code)
    (h : wpAny (model prog w) A (callWith pos (.builtin "re.Pattern.sub") [.ref a] (backTo pos (starEach args env)) []) Q E s)
    (hk : env.scope.kind = .function := by rfl) (hx : env.kindOf x = some .globalImplicit := by rfl) (hg : env.globals = mainGlobals := by rfl) (hd : (x == ("__debug__" : Str)) = false := by decide)
    (hbase : attributeBase (.Name x np) "sub" env (eval (.Name x np) env) = eval (.Name x np) env := by rfl)
    (hfew : ((backTo pos (starEach args env)).all (fun x => !x.1) && (backToKw pos (keywordEach [] env)).all (fun x => x.1.isSome)
      && decide (args.length + ([] : List Keyword).length + (if ([] : List Keyword).isEmpty then 0 else 1) < 30)) = true := by rfl)
    (hline : (apos.endLine == pos.line) = true := by rfl) :
    wpAny (model prog w) A (eval (.Call (.Attribute (.Name x np) "sub" apos) args [] pos) env) Q E s := by
  obtain ⟨f0, f1, e⟩ := hp.pat
  exact wpAny_Call_method hbase hfew hline plainAttrs_pat slot_pat_sub type_pat_sub (nameG W hv ⟨⟨_, e, rfl⟩, (fun b eb => by cases eb; exact ⟨_, e, rfl⟩), h⟩ hk hx hg hd)

theorem call_fix {x : Str} {t : Tok} (W : Wd mg mb s.heap) (hA : A.depth ≤ 500) (hx : x.cps.size ≤ 1000) (h : ∀ s' tk, Keeps s s' → Q (.str (S (fixS false x.cps.toList)) tk) s') :
    wpAny (model prog w) A (call (.ref 63) [.str x t]) Q E s := by
  refine enter (binds := [("data", .str x t)]) W W.ffix hA (fun pm => .of_eq rfl) (by decide) (PyProof.Rows.locs rfl) fun pm L s₁ hns hL k => ?_
  have W1 := W.keeps (kAll k)
  refine wpAny_execs_cons (wpAny_Return_some (method_pat W1 W1.re2 W1.pat2 ?_))
  obtain ⟨tc, hc⟩ := W1.crlf
  refine cwB2 (nameG W1 hc (nameL hns rfl ?_))
  exact call_sub2 W1.pat2 hx fun s' tk k' => h s' tk (kTrans k k')

theorem call_quo {x : Str} {t : Tok} (W : Wd mg mb s.heap) (hA : A.depth ≤ 500) (hx : x.cps.size ≤ 400) (h : ∀ s' tk, Keeps s s' → Q (.str (S (qd true (fixS false x.cps.toList))) tk) s') :
    wpAny (model prog w) A (call (.ref 56) [.str x t]) Q E s := by
  refine enter (binds := [("data", .str x t)]) W W.fquo hA (fun pm => .of_eq rfl) (by decide) (PyProof.Rows.locs rfl) fun pm L s₁ hns hL k => ?_
  have W1 := W.keeps (kAll k)
  refine wpAny_execs_cons (wpAny_Return_some (method_pat W1 W1.re1 W1.pat1 ?_))
  refine cwB2 (Calls.Constant_str ?_)
  refine method_pat (s := { s₁ with toks := s₁.toks + 1 }) W1 W1.re2 W1.pat2 ?_
  obtain ⟨tc, hc⟩ := W1.crlf
  refine cwB2 (nameG (s := { s₁ with toks := s₁.toks + 1 }) W1 hc (nameL hns rfl ?_))
  refine call_sub2 (s := { s₁ with toks := s₁.toks + 1 }) W1.pat2 (by omega) fun s' tk k' => ?_
  have W2 := W1.keeps (kAll k')
  have hlen : (S (fixS false x.cps.toList)).cps.size ≤ 1000 := by
    have : ∀ (l : List Nat) (b : Bool), (fixS b l).length ≤ 2 * l.length := by
      intro l
      induction l with
      | nil => intro b; simp [fixS]
      | cons c r ih =>
        intro b
        have h1 := ih true
        have h2 := ih false
        unfold fixS
        (repeat' split) <;> simp <;> omega
    have h1 := this x.cps.toList false
    simp [S] at h1 ⊢
    omega
  refine call_sub1 W2.pat1 hlen fun s'' tk' k'' => ?_
  have := h s'' tk' (kTrans k (kTrans (kTrans kTok k') k''))
  rwa [S_toList]
end
end Mine
end

section
open PySem PySem.Builtin PySem.Builtin.Str PySem.W PyProof.Rows
namespace Mine

theorem owner_map : Manifest.owners.lookup (String.ofList ['p', 'a', 'm'].reverse) = some Manifest.sig_map := by kernel_rfl
theorem slot_map_init : Slot "map" "__init__" "object.__init__" :=
  .of (owner := "object") (n := "__init__") (by rw [typeLookup_type, builtinLookup_eq_fast]; kernel_rfl) (by decide +kernel) (by decide +kernel) (by decide +kernel)
    (by first | exact .inl (by decide +kernel) | exact .inr (by decide +kernel)) (by rw [isSubtype_type]; kernel_rfl)
theorem slot_map_iter : Slot "map" "__iter__" "map.__iter__" :=
  .of (owner := "map") (n := "__iter__") (by rw [typeLookup_type, builtinLookup_eq_fast]; kernel_rfl) (by decide +kernel) (by decide +kernel) (by decide +kernel)
    (by first | exact .inl (by decide +kernel) | exact .inr (by decide +kernel)) (by rw [isSubtype_type]; kernel_rfl)
theorem slot_map_next : Slot "map" "__next__" "map.__next__" :=
  .of (owner := "map") (n := "__next__") (by rw [typeLookup_type, builtinLookup_eq_fast]; kernel_rfl) (by decide +kernel) (by decide +kernel) (by decide +kernel)
    (by first | exact .inl (by decide +kernel) | exact .inr (by decide +kernel)) (by rw [isSubtype_type]; kernel_rfl)
theorem args_map_iter (a : Value) : argsOk "map.__iter__" ⟨[a], []⟩ := by
  unfold argsOk; rw [signature?_of (id := "map.__iter__") (n := ['_', '_', 'r', 'e', 't', 'i', '_', '_']) (o := ['p', 'a', 'm']) (by kernel_rfl) owner_map]; kernel_rfl
theorem args_map_next (a : Value) : argsOk "map.__next__" ⟨[a], []⟩ := by
  unfold argsOk; rw [signature?_of (id := "map.__next__") (n := ['_', '_', 't', 'x', 'e', 'n', '_', '_']) (o := ['p', 'a', 'm']) (by kernel_rfl) owner_map]; kernel_rfl
theorem entry_map_next : entryFor table "map.__next__" = some Builtin.«map.__next__» := entryFor_of_tree (by kernel_rfl)
theorem entry_map_new : entryFor table "map.__new__" = some Builtin.«map.__new__» := entryFor_of_tree (by kernel_rfl)
theorem entry_map_iter : entryFor table "map.__iter__" = some Builtin.«dict_keyiterator.__iter__» :=
  entryFor_alias (id' := "dict_keyiterator.__iter__") (by kernel_rfl) (by first | rfl | decide +kernel | (unfold String.splitOn; simp +decide [String.splitOnAux])) (by decide +kernel) (by kernel_rfl)
theorem mro_map : mroOf (.type "map") = pure [.type "map", .type "object"] := by rw [mroOf_type]; kernel_rfl
theorem lookup_map_new : typeLookup (.type "map") "__new__" = pure (some (.builtin "map.__new__")) := by rw [typeLookup_type, builtinLookup_eq_fast]; kernel_rfl
theorem called_map : TypeCalled "map" "map.__new__" "object.__init__" :=
  ⟨by decide +kernel, by decide +kernel, ⟨_, _, mro_map⟩, madeBy_type mro_map lookup_map_new (by decide +kernel), by decide +kernel, by rw [isSubtype_type]; kernel_rfl, slot_map_init⟩
theorem typeCall_map_2 (a b : Value) : checkTypeCall "map" ⟨[a, b], []⟩ = pure () := by kernel_rfl
theorem newCall_map_2 (a b : Value) : checkBuiltinCall "map.__new__" ⟨[.type "map", a, b], []⟩ = pure () := by kernel_rfl
theorem sub_map : isSubtype (.type "map") (.type "map") = pure true := by rw [isSubtype_type]; kernel_rfl
theorem map_no_len : typeLookup (.type "map") "__len__" = pure none := by rw [typeLookup_type, builtinLookup_eq_fast]; kernel_rfl
theorem map_no_hint : typeLookup (.type "map") "__length_hint__" = pure none := by rw [typeLookup_type, builtinLookup_eq_fast]; kernel_rfl

abbrev IsMap (h : Heap) (z TI : Addr) (f : Value) : Prop := h.get? z = some { cls := .type "map", data := .fields #[.ref TI, f] }
abbrev IsOne (h : Heap) (T : Addr) (a : Value) : Prop := h.get? T = some { cls := .type "tuple", data := .seq #[a] }

abbrev mapH1 (h : Heap) (l : Addr) : Heap := h.push { cls := .type "list_iterator", data := .fields #[.ref l, .int 0 0] }
abbrev mapH2 (h : Heap) (l : Addr) : Heap := (mapH1 h l).push { cls := .type "tuple", data := .seq #[.ref h.objs.size] }
abbrev mapH3 (h : Heap) (l : Addr) (f : Value) : Heap := (mapH2 h l).push { cls := .type "map", data := .fields #[.ref (mapH1 h l).objs.size, f] }

theorem meets_map_new (f : Value) (l : Addr) (xs : Array Value) :
    Meets (Builtin.«map.__new__» ⟨[.type "map", f, .ref l], []⟩) (fun _ R s => s.heap.IsList l xs ∧ R (.ok (.ret (.ref (mapH2 s.heap l).objs.size))) { s with heap := mapH3 s.heap l f }) :=
  .of_wp fun prog w A R s h => by
    obtain ⟨hp, g, d, tk, os⟩ := s; obtain ⟨hl1, h⟩ := h
    have hsub := sub_map
    have hL1 : Heap.IsList (Shared.heap ⟨hp, g, d, tk, os⟩) l xs := hl1
    wp_walk using wpAny_pyIter_list hL1
    exact ⟨_, rfl, h⟩

section
variable {prog : Program} {w : World} {A : Around} {E : Value → Shared → Prop} {s : Shared} {Q : Value → Shared → Prop}

theorem call_map {f : Value} {l : Addr} {xs : Array Value} (hl : s.heap.IsList l xs)
    (h : ∀ h', IsMap h' (s.heap.objs.size + 2) (s.heap.objs.size + 1) f → IsOne h' (s.heap.objs.size + 1) (.ref s.heap.objs.size) → h'.IsListIter s.heap.objs.size l 0 → h'.objs.size = s.heap.objs.size + 3 →
      (∀ b o, s.heap.get? b = some o → h'.get? b = some o) → Q (.ref (s.heap.objs.size + 2)) { s with heap := h' }) :
    wpAny (model prog w) A (call (.type "map") [f, .ref l]) Q E s := by
  refine callType_new called_map (by decide) (typeCall_map_2 _ _) (newCall_map_2 _ _) (fun obj => F.args_object_init_3 obj _ _) entry_map_new (meets_map_new f l xs) ⟨hl, ?_⟩
  have z1 : (mapH1 s.heap l).objs.size = s.heap.objs.size + 1 := Heap.size_push ..
  have z2 : (mapH2 s.heap l).objs.size = s.heap.objs.size + 2 := by rw [Heap.size_push, z1]
  have z3 : (mapH3 s.heap l f).objs.size = s.heap.objs.size + 3 := by rw [Heap.size_push, z2]
  have g3 : (mapH3 s.heap l f).get? (mapH2 s.heap l).objs.size = some _ := Heap.get?_push_size _ rfl
  have g2 : (mapH3 s.heap l f).get? (mapH1 s.heap l).objs.size = some _ := Heap.get?_push_of_some _ (Heap.get?_push_size _ rfl)
  have g1 : (mapH3 s.heap l f).get? s.heap.objs.size = some _ := Heap.get?_push_of_some _ (Heap.get?_push_of_some _ (Heap.get?_push_size _ rfl))
  show _ ∧ _
  rw [z1, z2] at g3
  rw [z1] at g2
  rw [z2]
  exact ⟨⟨_, g3, rfl⟩, h _ g3 g2 ⟨_, g1, rfl, rfl⟩ z3 fun b o x => Heap.get?_push_of_some _ (Heap.get?_push_of_some _ (Heap.get?_push_of_some _ x))⟩
end
end Mine
end

section
open PySem PySem.Builtin PySem.Builtin.Str PySem.W PyProof.Rows
namespace Mine

def MapSt (z TI it l : Addr) (items : Array Value) (i : Nat) (h : Heap) : Prop := IsMap h z TI (.builtin "str.capitalize") ∧ IsOne h TI (.ref it) ∧ h.IsListIter it l i ∧ h.IsList l items

section
variable {prog : Program} {w : World} {A : Around} {E : Value → Shared → Prop} {s : Shared}

theorem map_next_item {z TI it l : Addr} {items : Array Value} {i : Nat} {y : Str} {t : Tok} {Q : Value → Shared → Prop} (hzi : z ≠ it) (hTi : TI ≠ it) (hli : l ≠ it) (st : MapSt z TI it l items i s.heap) (hx : items[i]? = some (.str y t)) (hy : y.length ≤ 1000)
    (hcap : (Txt.capitalized y).length ≤ 1000)
    (hQ : ∀ h' tk t', MapSt z TI it l items (i + 1) h' → (∀ b o, b ≠ it → s.heap.get? b = some o → h'.get? b = some o) → Q (.str (Txt.capitalize y) t') { s with heap := h', toks := tk }) :
    wpAny (model prog w) A (Builtin.«map.__next__» ⟨[.ref z], []⟩) (fun fin s' => ∃ v, fin = .done (.ret v) ∧ Q v s') E s := by
  obtain ⟨hz, hT, hit, hl⟩ := st
  show wpAny _ _ (field (.ref z) 0 >>= _) _ _ _
  refine wpAny_bind (wpAny_field hz rfl (x := .ref TI) rfl ?_)
  refine wpAny_bind (wpAny_seqItems hT rfl ?_)
  simp only [List.forIn_toArray, List.forIn_cons, List.forIn_nil]
  refine wpAny_bind (wpAny_bind (wpAny_bind (wpAny_holding (wpAny_nextOf_list_item hit hl hx fun h₁ hit₁ hs₁ => wpAny_pure (wpAny_pure ?_)))))
  have hz₁ : IsMap h₁ z TI (.builtin "str.capitalize") := hs₁.extBut _ _ hzi hz
  refine wpAny_bind (m := field (.ref z) 1) (wpAny_field hz₁ rfl (x := .builtin "str.capitalize") rfl ?_)
  refine wpAny_bind (wpAny_holding (SC.capitalize (by unfold tooLong; rw [sizeLine_eq]; exact decide_eq_false (by omega)) fun t' k => ?_))
  refine wpAny_bind (wpAny_letGo (wpAny_pure ⟨_, rfl, ?_⟩))
  exact hQ h₁ k t' ⟨hz₁, hs₁.extBut _ _ hTi hT, hit₁, hl.extBut hs₁.extBut hli⟩ fun b o hb e => hs₁.extBut b o hb e

theorem map_next_end {z TI it l : Addr} {items : Array Value} {i : Nat} {Q : PySem.Fin → Shared → Prop} (hh : A.handled = none) (st : MapSt z TI it l items i s.heap) (hx : items[i]? = none)
    (hE : ∀ h' e, Heap.ExtBut it s.heap h' → (∃ o, h'.get? e = some o ∧ o.cls = .type "StopIteration") → E (.ref e) { s with heap := h' }) :
    wpAny (model prog w) A (Builtin.«map.__next__» ⟨[.ref z], []⟩) Q E s := by
  obtain ⟨hz, hT, hit, hl⟩ := st
  show wpAny _ _ (field (.ref z) 0 >>= _) _ _ _
  refine wpAny_bind (wpAny_field hz rfl (x := .ref TI) rfl ?_)
  refine wpAny_bind (wpAny_seqItems hT rfl ?_)
  simp only [List.forIn_toArray, List.forIn_cons, List.forIn_nil]
  exact wpAny_bind (wpAny_bind (wpAny_bind (wpAny_holding (wpAny_nextOf_list_end hh hit hl hx hE))))

def capP (l : List (Str × Tok)) (i : Nat) (v : Value) : Prop := ∃ p t', l[i]? = some p ∧ v = .str (Txt.capitalize p.1) t'

theorem walks_map (hh : A.handled = none) (z TI it D : Addr) (hzi : z ≠ it) (hTi : TI ≠ it) (hDi : D ≠ it) (l : List (Str × Tok)) (hl : ∀ p ∈ l, p.1.length ≤ 1000 ∧ (Txt.capitalized p.1).length ≤ 1000) :
    Walks prog w A z [z, TI, it, D] [it] l.length (capP l) (MapSt z TI it D (strValues l).toArray) where
  sub := fun b hb => by simp at hb; simp [hb]
  frame := fun i h h' st hk => ⟨hk z (by simp) _ st.1, hk TI (by simp) _ st.2.1, st.2.2.1.at fun o e => hk it (by simp) o e, st.2.2.2.at fun o e => hk D (by simp) o e⟩
  item := fun i s Q E hi st hQ => by
    have hT : s.TypeIs (.ref z) "map" := ⟨_, st.1, rfl⟩
    obtain ⟨p, hp⟩ : ∃ p, l[i]? = some p := ⟨l[i], List.getElem?_eq_getElem hi⟩
    have hx : (strValues l).toArray[i]? = some (.str p.1 p.2) := by simp [strValues, hp]
    have hb := hl p (List.mem_of_getElem? hp)
    unfold pyNext
    exact wpAny_bind (wpAny_attempt (wpAny_callSpecial?_slot (name := PySem.Str.ofString "__next__") hT slot_map_next (wpAny_call_entry slot_map_next hT entry_map_next
      (map_next_item hzi hTi hDi st hx hb.1 hb.2 fun h' tk t' st' hk => wpAny_pure (hQ _ h' tk ⟨p, t', hp, rfl⟩ st' fun b o hb e => hk b o (fun q => hb (by simp [q])) e)) (args_map_next _))))
  done := fun s Q E st hQ => by
    have hT : s.TypeIs (.ref z) "map" := ⟨_, st.1, rfl⟩
    have hx : (strValues l).toArray[l.length]? = none := by simp [strValues]
    unfold pyNext
    refine wpAny_bind (wpAny_attempt (wpAny_callSpecial?_slot (name := PySem.Str.ofString "__next__") hT slot_map_next (wpAny_call_entry slot_map_next hT entry_map_next (map_next_end hh st hx fun h' e hk he => ?_) (args_map_next _))))
    obtain ⟨o, ho, hc⟩ := he
    refine wpAny_bind (wpAny_isInstance (T := "StopIteration") (b := true) ⟨o, ho, hc⟩ isSubtype_stop ?_)
    exact wpAny_pure (hQ h' s.toks fun b o hb e => hk b o (fun q => hb (by simp [q])) e)
  self := fun i s Q E st hQ => by
    have hT : s.TypeIs (.ref z) "map" := ⟨_, st.1, rfl⟩
    refine wpAny_pyIter_slot hT slot_map_iter (wpAny_call_entry slot_map_iter hT entry_map_iter ?_ (args_map_iter _))
    show wpAny _ _ (ret (.ref z)) _ _ s
    exact wpAny_pure ⟨_, rfl, "map", _, hT, slot_map_next.lookup, hQ⟩

/-- a map object, its items drawn into a list -/
theorem collect_map {I : Addr} {fp wr : List Addr} {n : Nat} {P : Nat → Value → Prop} {St : Nat → Heap → Prop} {Q : List Value → Shared → Prop} (W : Walks prog w A.in1 I fp wr n P St) (hT : ∀ i h, St i h → ∃ o, h.get? I = some o ∧ o.cls = .type "map") (hst : St 0 s.heap)
    (hfp : ∀ b ∈ fp, b < s.heap.objs.size) (hI : I ∈ fp) (hQ : ∀ s' acc, Moved wr (fun a b => b = a) s s' → ItemsOf P acc n → Q acc.toList s') (hn : n ≤ sizeLine) : wpAny (model prog w) A (collect (.ref I)) Q E s := by
  have hSf : s.heap.objs.size ∉ fp := fun hm => Nat.lt_irrefl _ (hfp _ hm)
  have hSI : s.heap.objs.size ≠ I := fun e => hSf (e ▸ hI)
  have WS := W.toS
  unfold collect
  refine wpAny_bind (wpAny_runValue (codeAny_builtin F.entry_proto_collect ?_))
  rw [Around.under_plainId F.plain_proto_collect _]
  show wpAny _ A.in1 (newList [] >>= fun l => again (.builtin "list.__iadd__" ⟨[l, .ref I], []⟩)) _ _ s
  refine wpAny_bind (wpAny_newObj_type ?_)
  refine wpAny_pure ⟨plainId_quiet F.plain_list_iadd _, codeAny_builtin F.entry_list_iadd ?_⟩
  rw [Around.under_plainId F.plain_list_iadd _]
  generalize hH : s.heap.push { cls := .type "list", data := .seq ([] : List Value).toArray } = H
  have hst₁ : St 0 H := W.frame 0 _ _ hst fun b _ o e => by rw [← hH]; exact Heap.get?_push_of_some _ e
  have hS₁ : H.get? s.heap.objs.size = some { cls := .type "list", data := .seq ([] : List Value).toArray } := by rw [← hH]; exact Heap.get?_push_size _ rfl
  have hT₁ : ({ s with heap := H } : Shared).TypeIs (.ref I) "map" := hT 0 H hst₁
  show wpAny _ A.in1 (Builtin.List.listExtendWith (.ref s.heap.objs.size) (.ref I) (.ref s.heap.objs.size)) _ _ { s with heap := H }
  unfold Builtin.List.listExtendWith
  refine wpAny_bind (wpAny_typeOf hT₁ ?_)
  have h1 : Builtin.List.listSameRef (.ref s.heap.objs.size) (.ref I) = false := by simp [Builtin.List.listSameRef, hSI]
  have h2 : (Value.type "map" == Value.type "list") = false := by decide
  have h3 : (Value.type "map" == Value.type "tuple") = false := by decide
  simp only [h1, h2, h3, Bool.or_false, Bool.false_eq_true, if_false]
  refine wpAny_bind (W.self 0 _ _ _ hst₁ (wpAny_bind (wpAny_holding ?_)))
  unfold Builtin.List.listLengthHint
  refine wpAny_bind (wpAny_specialOf hT₁ map_no_len ?_)
  show wpAny _ A.in1 (specialOf (Value.ref I) (PySem.Str.ofString "__length_hint__") >>= _) _ _ _
  refine wpAny_bind (wpAny_specialOf hT₁ map_no_hint (wpAny_pure ?_))
  show wpAny _ A.in1 (rule "list.extend.makes-room" >>= fun _ => Builtin.List.listTouch (.ref s.heap.objs.size) >>= fun _ =>
    again (.builtin "list.extend.loop" ⟨[.ref s.heap.objs.size, .ref I, .ref s.heap.objs.size], []⟩)) _ _ _
  refine wpAny_bind (wpAny_rule (wpAny_bind ?_))
  show wpAny _ A.in1 (updateSeq s.heap.objs.size (·.push .none) >>= fun _ => updateSeq s.heap.objs.size (·.pop)) _ _ _
  refine wpAny_bind (wpAny_updateSeq hS₁ rfl ?_)
  have hS₂ := Heap.get?_update_self (Obj.mapSeq (·.push Value.none)) hS₁ rfl
  refine wpAny_updateSeq hS₂ rfl ?_
  have hS₃ := Heap.get?_update_self (Obj.mapSeq (·.pop)) hS₂ rfl
  have oth : ∀ b o, b ≠ s.heap.objs.size → H.get? b = some o → ((H.update s.heap.objs.size (Obj.mapSeq (·.push Value.none))).update s.heap.objs.size (Obj.mapSeq (·.pop))).get? b = some o :=
    fun b o hb e => (Heap.get?_update_other _ _ (Ne.symm hb)).trans ((Heap.get?_update_other _ _ (Ne.symm hb)).trans e)
  refine wpAny_pure ⟨plainId_quiet F.plain_extend_loop _, codeAny_extend_loopS WS hn _ hSf _ n 0 _ _ _ rfl (Nat.zero_le _) (W.frame 0 _ _ hst₁ fun b hb o e => oth b o (fun q => hSf (q ▸ hb)) e) hS₃ (ItemsOf.nil P) fun s' acc' c' hm hS' hacc => ?_⟩
  show wpAny _ A (load s.heap.objs.size >>= _) _ _ s'
  refine wpAny_bind (wpAny_load hS' (wpAny_pure (hQ s' acc' ⟨fun b o hb e => ?_, hm.gens, hm.drawn, hm.os, hm.toks⟩ hacc)))
  have hbs : b ≠ s.heap.objs.size := Nat.ne_of_lt (Heap.lt_size e)
  exact hm.heap b o (by simp [hbs, hb]) (oth b o hbs (by rw [← hH]; exact Heap.get?_push_of_some _ e))

/-- join over a map object -/
theorem join_map {I : Addr} {fp wr : List Addr} {n : Nat} {P : Nat → Value → Prop} {St : Nat → Heap → Prop} {x : Str} {t : Tok} {Q : Value → Shared → Prop} (W : Walks prog w A.in1.in1 I fp wr n P St) (hT : ∀ i h, St i h → ∃ o, h.get? I = some o ∧ o.cls = .type "map") (hst : St 0 s.heap)
    (hfp : ∀ b ∈ fp, b < s.heap.objs.size) (hI : I ∈ fp) (hstr : ∀ i v, P i v → ∃ y u, v = Value.str y u)
    (hq : ∀ s' (l : List (Str × Tok)), Moved wr (fun a b => b = a) s s' → ItemsOf P (strValues l).toArray n → JoinOk x (l.map (·.1)) = true ∧ ∀ t' k, Q (.str (Txt.join x (l.map (·.1))) t') { s' with toks := k }) (hn : n ≤ sizeLine) :
    wpAny (model prog w) A (call (.builtin "str.join") [.str x t, .ref I]) Q E s := by
  refine wpAny_call (codeAny_call_builtin F.slot_str_join.plain F.entry_str_join (F.slot_str_join.check _ _ _ _ _ _ _ _ (typeIs_str _ _ _) (F.args_str_join_2 _ _) ?_))
  rw [join_tree_other]
  refine wpAny_bind (wpAny_typeOf (T := "map") (hT 0 _ hst) ?_)
  show wpAny _ A.in1 ((pyIter (.ref I)).tryCatch _ >>= fun it => collect it >>= fun items => joinTail x items) _ _ s
  refine wpAny_bind (wpAny_tryCatch (W.of_in1.self 0 s _ _ hst (wpAny_bind (collect_map W hT hst hfp hI (fun s' acc hm hacc => ?_) hn))))
  obtain ⟨l, hl⟩ := exists_strValues acc.toList fun v hv => by
    obtain ⟨j, hj, rfl⟩ := Array.mem_iff_getElem.mp (Array.mem_toList_iff.mp hv)
    exact hstr j _ (hacc.2 j _ (Array.getElem?_eq_getElem hj))
  rw [← hl]
  obtain ⟨hok, hpost⟩ := hq s' l hm (by rw [hl]; simpa using hacc)
  unfold JoinOk at hok
  rw [Bool.not_eq_true'] at hok
  have g : Gives (joinTail x (strValues l)) (joinMade x l) := by
    have g0 := gives_joinTail x l hok
    cases l with
    | nil => exact g0
    | cons p r => cases r with
      | nil => exact g0
      | cons q r' => exact g0
  exact g prog w A (wants Q E) s' (post_join l ⟨joinFit_length hok, hpost⟩)
end
end Mine
end

section
open PySem PySem.Builtin PySem.Builtin.Str PySem.W PyProof.Rows
namespace Mine
section
variable {prog : Program} {w : World} {A : Around} {E : Value → Shared → Prop} {s : Shared} {mg mb : Str → Option Value} {Q : Value → Shared → Prop}

theorem mem_le_sum : ∀ {l : List Nat} {y : Nat}, y ∈ l → y ≤ l.sum
  | a :: r, y, h => by
    rw [List.sum_cons]
    rcases List.mem_cons.mp h with rfl | h
    · omega
    · have := mem_le_sum h; omega
theorem pushKeeps (s₀ : Shared) : KeptByPush (Keeps s₀) := fun _ _ k h => kTrans h ⟨_, k, rfl, fun _ _ e => Heap.get?_push_of_some _ e⟩

theorem split_none_tree (x : Str) (t : Tok) : «str.split» ⟨[.str x t, .none], []⟩ = «str.split» ⟨[.str x t], []⟩ := by rfl

theorem split_none {x : Str} {t : Tok} (h : ∀ D l s', l.map (·.1) = Txt.words x → Keeps s s' → s'.heap.IsList D (strValues l).toArray → Q (.ref D) s')
    (hsz : x.length ≤ 1000) (hsz2 : (spaceWords x (x.length + 1)).length ≤ sizeLine) :
    wpAny (model prog w) A (call (.builtin "str.split") [.str x t, .none]) Q E s := by
  have hz : x.length ≤ sizeLine := by rw [sizeLine_eq]; omega
  refine call_meets F.slot_str_split (typeIs_str _ _ _) F.entry_str_split (F.args_str_split_2 _ _) (by rw [split_none_tree]; exact meets_str_split_space x t hz hsz2) ?_
  cases hw : spaceWords x (x.length + 1) == [(0, x.length)]
  · simp only [Bool.false_eq_true, if_false]
    rw [strsFrom_eq]
    exact h _ (numbered s.toks (PySem.wordsOf x)) _ ((numbered_texts _ _).trans (if_neg (ne_true_of_eq_false hw)).symm) (pushKeeps s _ _ _ kRefl) ⟨_, Heap.get?_push_size _ rfl, rfl, _, rfl⟩
  · simp only [if_true]
    exact h _ [(x, t)] _ (if_pos hw).symm (pushKeeps s _ _ s.toks kRefl) ⟨_, Heap.get?_push_size _ rfl, rfl, _, rfl⟩

theorem inNil {h : Heap} : Frag.In [] h := fun _ _ e => by cases e

theorem attr_cap {expr : Bool} (h : Q (.builtin "str.capitalize") { s with toks := s.toks + 1 }) : wpAny (model prog w) A (getAttr (.type "str") "capitalize" expr) Q E s := by
  have hstub : opaqueClassAbove (.type "str") = pure none := by unfold opaqueClassAbove; dsimp only; rw [show Manifest.isStub "str" = false by decide +kernel]; rfl
  refine cls_open (K := []) (mc := .type "type") inNil (Looks.of_pure hstub) (Looks.of_pure (kitMeta_of (by decide +kernel))) type_tga (looks_hook inNil (r := none) (by rfl)) (by show subIn [] _ _ = _; rfl)
    (r := .val (.builtin "str.capitalize")) (by kernel_rfl) ?_
  exact wpAny_pure (handed_on rfl h)

/-- what the whole body makes of the list that split gives -/
theorem cap_join {sep : Str} {u : Tok} {D : Addr} {l : List (Str × Tok)} (hh : A.handled = none) (hD : s.heap.IsList D (strValues l).toArray) (hl : ∀ p ∈ l, p.1.length ≤ 1000 ∧ (Txt.capitalized p.1).length ≤ 1000) (hn : l.length ≤ 1000) (hs : sep.length ≤ 10)
    (h : ∀ s' tk, Keeps s s' → Q (.str (Txt.join sep ((l.map (·.1)).map Txt.capitalize)) tk) s') :
    wpAny (model prog w) A (call (.type "map") [.builtin "str.capitalize", .ref D]) (fun v s₁ => wpAny (model prog w) A (call (.builtin "str.join") [.str sep u, v]) Q E s₁) E s := by
  refine call_map hD fun h' hm hone hit hsz hk => ?_
  have hDlt : D < s.heap.objs.size := by obtain ⟨o, e, _⟩ := hD; exact Heap.lt_size e
  have W := walks_map (prog := prog) (w := w) (A := A.in1.in1) hh (s.heap.objs.size + 2) (s.heap.objs.size + 1) s.heap.objs.size D (neN (by omega)) (neN (by omega)) (Nat.ne_of_lt hDlt) l hl
  refine join_map (s := { s with heap := h' }) W (fun i h st => ⟨_, st.1, rfl⟩) ⟨hm, hone, hit, hD.at fun o e => hk _ _ e⟩ ?_ (by simp) (fun i v hv => by obtain ⟨p, t', _, rfl⟩ := hv; exact ⟨_, _, rfl⟩) ?_ (by rw [sizeLine_eq]; omega)
  · intro b hb
    show b < h'.objs.size
    rw [hsz]
    simp at hb
    rcases hb with rfl | rfl | rfl | rfl
    · exact ltN (by omega)
    · exact ltN (by omega)
    · exact ltN (by omega)
    · exact Nat.lt_trans hDlt (ltN (by omega))
  · intro s' l' mv hitems
    have hlen : l'.length = l.length := by have := hitems.1; simpa [strValues] using this
    have hmap : l'.map (·.1) = (l.map (·.1)).map Txt.capitalize := by
      apply List.ext_getElem?
      intro i
      rw [List.getElem?_map, List.getElem?_map, List.getElem?_map]
      by_cases hi : i < l'.length
      · have hv : (strValues l').toArray[i]? = some (.str (l'[i]).1 (l'[i]).2) := by simp [strValues, hi]
        obtain ⟨p, t', hp, e⟩ := hitems.2 i _ hv
        rw [hp, List.getElem?_eq_getElem hi]
        simp only [Option.map_some]
        injection e with e1 e2
        rw [e1]
      · rw [List.getElem?_eq_none (by omega), List.getElem?_eq_none (by omega)]; rfl
    refine ⟨?_, fun t' k => ?_⟩
    · unfold JoinOk
      rw [hmap, StrLaws.joinFits (B := 1000)]
      · rfl
      · intro y hy
        obtain ⟨z, hz, rfl⟩ := List.mem_map.mp hy
        obtain ⟨p, hp, rfl⟩ := List.mem_map.mp hz
        unfold Txt.capitalize
        split
        · exact (hl p hp).1
        · exact (hl p hp).2
      · simp only [List.length_map]
        have : l.length * sep.length ≤ 1000 * 10 := Nat.mul_le_mul hn hs
        omega
    · rw [hmap]
      refine h _ _ ?_
      obtain ⟨hp, hg, hd, ho, _⟩ := mv
      obtain ⟨sh, sg, sd, st, so⟩ := s'
      simp only at hp hg hd ho
      subst hg hd ho
      exact ⟨sh, k, rfl, fun b o e => hp b o (by simp; exact Nat.ne_of_lt (Heap.lt_size e)) (hk b o e)⟩

theorem call_cap0 {x : Str} {t : Tok} (W : Wd mg mb s.heap) (hA : A.depth ≤ 500) (hh : A.handled = none) (hx : x.length ≤ 900) (hcap : ∀ y ∈ Txt.words x, (Txt.capitalized y).length ≤ 1000) (hsz2 : (spaceWords x (x.length + 1)).length ≤ sizeLine)
    (h : ∀ s' tk, Keeps s s' → Q (.str (Txt.join (S [32]) ((Txt.words x).map Txt.capitalize)) tk) s') : wpAny (model prog w) A (call (.ref 39) [.str x t]) Q E s := by
  refine enter (binds := [("s", .str x t), ("sep", .none)]) W W.fcap hA (fun pm => BindsTo.of_defaults rfl W.tup rfl rfl rfl) (by decide) (PyProof.Rows.locs rfl) fun pm L s₁ hns hL k => ?_
  have W1 := W.keeps (kAll k)
  have ww := StrLaws.words_weight x
  refine wpAny_execs_cons (wpAny_Return_some (wpAny_Call_method rfl rfl rfl F.plainAttrs_str F.slot_str_join F.type_str_join ?_))
  refine wpAny_Or2 (nameL hns rfl ?_)
  refine wpAny_pure (a := false) ?_
  refine Calls.Constant_str ⟨typeIs_str _ _ _, (fun _ e => nomatch e), ?_⟩
  refine cwB1 (callN (nameB (s := { s₁ with toks := s₁.toks + 1 }) W1 W1.map (cwT2 ?_)))
  rw [arm_eval_Attribute]
  refine wpAny_bind (m := eval _ _) (nameB (s := { s₁ with toks := s₁.toks + 1 }) W1 W1.str (wpAny_bind (wpAny_standAt (wpAny_bind (wpAny_holding (attr_cap (wpAny_bind (wpAny_of_eq (a := ()) rfl (wpAny_pure ?_)))))))))
  refine wpAny_Call_method rfl rfl rfl F.plainAttrs_str F.slot_str_split F.type_str_split (nameL hns rfl ⟨typeIs_str _ _ _, (fun _ e => nomatch e), ?_⟩)
  refine cwB1 (nameL hns rfl ?_)
  refine split_none (fun D l s' hl k' hD => ?_) (by omega) hsz2
  have hmem : ∀ p ∈ l, p.1 ∈ Txt.words x := fun p hp => by rw [← hl]; exact List.mem_map_of_mem hp
  have hlen : ∀ y ∈ Txt.words x, y.length ≤ 1000 := fun y hy => by
    have := mem_le_sum (List.mem_map_of_mem (f := (·.length)) hy)
    omega
  refine cap_join hh hD (fun p hp => ⟨hlen _ (hmem p hp), hcap _ (hmem p hp)⟩) (by have := congrArg List.length hl; simp at this; omega) (by decide) fun s'' tk k'' => ?_
  rw [hl]
  exact h s'' tk (kTrans k (kTrans (kTrans kTok k') k''))

theorem parts_le (x y : Str) (cuts : List Nat) (w : Nat) : (partsBetween x cuts w).length ≤ cuts.length + 1 := by
  unfold partsBetween
  simp

theorem call_cap1 {x y : Str} {t u : Tok} (W : Wd mg mb s.heap) (hA : A.depth ≤ 500) (hh : A.handled = none) (hx : x.length ≤ 900) (hy : y.length = 1) (hlen : ∀ p ∈ Txt.split x y, p.length ≤ 1000) (hcap : ∀ p ∈ Txt.split x y, (Txt.capitalized p).length ≤ 1000) (hcnt : (Txt.split x y).length ≤ 1000)
    (h : ∀ s' tk, Keeps s s' → Q (.str (Txt.join y ((Txt.split x y).map Txt.capitalize)) tk) s') : wpAny (model prog w) A (call (.ref 39) [.str x t, .str y u]) Q E s := by
  refine enter (binds := [("s", .str x t), ("sep", .str y u)]) W W.fcap hA (fun pm => BindsTo.of_defaults rfl W.tup rfl rfl rfl) (by decide) (PyProof.Rows.locs rfl) fun pm L s₁ hns hL k => ?_
  have W1 := W.keeps (kAll k)
  refine wpAny_execs_cons (wpAny_Return_some (wpAny_Call_method rfl rfl rfl F.plainAttrs_str F.slot_str_join F.type_str_join ?_))
  refine wpAny_Or2 (nameL hns rfl ?_)
  refine KXt.truthy (b := true) (by rw [hy]; rfl) (by omega) fun tk1 => ?_
  refine ⟨typeIs_str _ _ _, (fun _ e => nomatch e), ?_⟩
  refine cwB1 (callN (nameB (s := { s₁ with toks := tk1 }) W1 W1.map (cwT2 ?_)))
  rw [arm_eval_Attribute]
  refine wpAny_bind (m := eval _ _) (nameB (s := { s₁ with toks := tk1 }) W1 W1.str (wpAny_bind (wpAny_standAt (wpAny_bind (wpAny_holding (attr_cap (wpAny_bind (wpAny_of_eq (a := ()) rfl (wpAny_pure ?_)))))))))
  refine wpAny_Call_method rfl rfl rfl F.plainAttrs_str F.slot_str_split F.type_str_split (nameL hns rfl ⟨typeIs_str _ _ _, (fun _ e => nomatch e), ?_⟩)
  refine cwB1 (nameL hns rfl ?_)
  refine SCG.split1 (Fm := Keeps s₁) (pushKeeps s₁) kTok (by rw [hy]; rfl) (fun D l s' hl k' hD => ?_) (by rw [sizeLine_eq]; omega) ?_
  · have hmem : ∀ p ∈ l, p.1 ∈ Txt.split x y := fun p hp => by rw [← hl]; exact List.mem_map_of_mem hp
    refine cap_join hh hD (fun p hp => ⟨hlen _ (hmem p hp), hcap _ (hmem p hp)⟩) (by have := congrArg List.length hl; simp at this; omega) (by omega) fun s'' tk k'' => ?_
    rw [hl]
    exact h s'' tk (kTrans k (kTrans k' k''))
  · refine Nat.le_trans (parts_le x y _ _) ?_
    have := StrLaws.occ_length_le x y 0 x.length (x.length + 1)
    rw [sizeLine_eq]
    omega
end
end Mine
end

section
open PySem PySem.Builtin PySem.Builtin.Str PySem.W PyProof.Rows
namespace Mine
section
variable {prog : Program} {w : World} {A : Around} {E : Value → Shared → Prop} {R : Result → Shared → Prop} {s : Shared} {env : Env}

/-- what a loop of a comprehension must give -/
def CompEnds (Q : Value → Shared → Prop) (D C : Addr) (r : Result) (s' : Shared) : Prop :=
  (∃ f, r = .ok f) ∧ ∃ m, s'.heap.Ns C m ∧ ∀ h', Heap.SameBut C s'.heap h' → Q (.ref D) { s' with heap := h' }

/-- the frame of a comprehension: its list and its names; the loop is told of apart -/
theorem comp_frame {elt target iter : Expr} {ifs : List Expr} {rest : List Comprehension} {scope : Scope} {pos : Pos} {Q : Value → Shared → Prop}
    (hfree : ∀ y ∈ scope.names, y.2 ≠ .free) (hcell : ∀ y ∈ scope.names, y.2 ≠ .cell) (hkind : scope.kind = .function)
    (hnames : ∀ y ∈ scope.names, y.2 = .local → scope.names.lookup y.1 = some .local)
    (h : wpAny (model prog w) A (eval iter env) (fun xv s₁ => wpAny (model prog w) A (pyIter xv) (fun it s₂ => ∃ I, it = .ref I ∧
      (∀ s' Q' E', Keeps s₂ s' → Q' (.ref I) s' → wpAny (model prog w) A (pyIter (.ref I)) Q' E' s') ∧
      ∀ s₃, s₃.heap.IsList s₂.heap.objs.size #[] → s₃.heap.Ns (s₂.heap.objs.size + 1) (fun _ => none) → Keeps s₂ s₃ →
        codeAny (model prog w) A (.compLoop (.ListComp elt (⟨target, iter, ifs, 0⟩ :: rest) scope pos) 0 (.ref I) (.ref s₂.heap.objs.size) (compEnv scope (s₂.heap.objs.size + 1) env))
          (CompEnds Q s₂.heap.objs.size (s₂.heap.objs.size + 1)) s₃) E s₁) E s)
    (hs : ∀ x, foldedSetIterable iter env x = pure x := by intro _; rfl) :
    wpAny (model prog w) A (eval (.ListComp elt (⟨target, iter, ifs, 0⟩ :: rest) scope pos) env) Q E s := by
  refine wpAny_ListComp hfree hkind hnames (wpAny_mono h (fun xv s₁ h₁ => wpAny_mono h₁ (fun it s₂ h₂ => ?_) fun _ _ e => e) fun _ _ e => e) hs
  obtain ⟨I, rfl, hself, hloop⟩ := h₂
  refine wpAny_newObj_type (hd := by size_fits) (wpAny_newFunctionEnv hcell (by intro y hy; simp at hy) (fun h₁ hns₁ hsb₁ => ?_) hkind)
  dsimp only at hns₁ hsb₁ ⊢
  generalize hH2 : s₂.heap.push { cls := .type "list", dict := none, data := .seq ([] : List Value).toArray } = H2 at hns₁ hsb₁ ⊢
  have hC : H2.objs.size = s₂.heap.objs.size + 1 := by rw [← hH2, Heap.size_push]
  rw [hC] at hns₁ hsb₁ ⊢
  have old : ∀ b o, s₂.heap.get? b = some o → h₁.get? b = some o := fun b o e =>
    hsb₁.extBut b o (Nat.ne_of_lt (Nat.lt_succ_of_lt (Heap.lt_size e))) (Heap.get?_push_of_some _ (hH2 ▸ Heap.get?_push_of_some _ e))
  have hacc : h₁.IsList s₂.heap.objs.size #[] := ⟨_, hsb₁.extBut _ _ (neN (by omega)) (Heap.get?_push_of_some _ (hH2 ▸ Heap.get?_push_size _ rfl)), rfl, _, rfl⟩
  have K : Keeps s₂ { s₂ with heap := h₁, toks := s₂.toks + ([] : List (Str × Value)).length } := kOf old
  have loop := hloop { s₂ with heap := h₁, toks := s₂.toks + ([] : List (Str × Value)).length } hacc hns₁ K
  have loop' : codeAny (model prog w) A (.compLoop (.ListComp elt (⟨target, iter, ifs, 0⟩ :: rest) scope pos) 0 (.ref I) (.ref s₂.heap.objs.size) (compEnv scope (s₂.heap.objs.size + 1) env))
      (fun r s' => ∃ m, s'.heap.Ns (s₂.heap.objs.size + 1) m ∧ ∀ h', Heap.SameBut (s₂.heap.objs.size + 1) s'.heap h' →
        match r with | .ok _ => Q (.ref s₂.heap.objs.size) { s' with heap := h' } | .error x => wpAny (model prog w) A (passOn "comprehension.variables-let-go" x (compEnv scope (s₂.heap.objs.size + 1) env)) Q E { s' with heap := h' })
      { s₂ with heap := h₁, toks := s₂.toks + ([] : List (Str × Value)).length } := codeAny_mono loop fun r s' hr => by
    obtain ⟨⟨f, rfl⟩, m, hn, hQ⟩ := hr
    exact ⟨m, hn, hQ⟩
  exact codeAny_compStart_list loop' (hself _ _ _ K loop')

theorem compLoop_pair {elt iter : Expr} {xi xc : Str} {pk pv pt : Pos} {x1 : Nat} {scope : Scope} {pos : Pos} {I D : Addr} {fp wr : List Addr} {n : Nat} {Pt : Nat → Array Value → Prop} {St : Nat → Heap → Prop} {Mid : Nat → Addr → Heap → Prop}
    {cenv : Env} {m : Str → Option Value} (hh : A.handled = none) (W : WalksT prog w A I fp wr n Pt St Mid) (h2 : ∀ i vals, Pt i vals → ∃ v0 v1, vals = #[v0, v1]) (F : Nat → Value → Prop)
    (hxi : cenv.kindOf xi = some .local) (hxc : cenv.kindOf xc = some .local) (hne : xi ≠ xc) (hp : (cenv.scope.kind == .class || (cenv.scope.kind == .module && cenv.locals != cenv.globals)) = false)
    (hDC : D ≠ cenv.locals) (hDf : D ∉ fp) (hCf : cenv.locals ∉ fp) (hst : St 0 s.heap) (hacc : s.heap.IsList D #[]) (hn : s.heap.Ns cenv.locals m)
    (helt : ∀ i v0 v1 s₂ m₂, i < n → Pt i #[v0, v1] → s₂.heap.Ns cenv.locals m₂ → m₂ xi = some v0 → m₂ xc = some v1 → (∀ b o, b ≠ cenv.locals → b ∉ wr → b ≠ D → s.heap.get? b = some o → s₂.heap.get? b = some o) →
      wpAny (model prog w) A (eval elt cenv) (fun y s₃ => F i y ∧ Keeps s₂ s₃) (fun _ _ => False) s₂)
    (hR : ∀ h' tk m' ys, h'.Ns cenv.locals m' → h'.IsList D ys → ys.size = n → (∀ j v, ys[j]? = some v → F j v) →
      (∀ b o, b ≠ cenv.locals → b ∉ wr → b ≠ D → s.heap.get? b = some o → h'.get? b = some o) → R (.ok .next) { s with heap := h', toks := tk })
    (hsz : n ≤ 1000000) :
    codeAny (model prog w) A (.compLoop (.ListComp elt [⟨.Tuple [.Name xi pk, .Name xc pv] x1 pt, iter, [], 0⟩] scope pos) 0 (.ref I) (.ref D) cenv) R s := by
  have hCw : cenv.locals ∉ wr := fun h => hCf (W.sub _ h)
  have hDw : D ∉ wr := fun h => hDf (W.sub _ h)
  refine codeAny_loop rfl (fun k s' => ∃ h' tk m' ys i, s' = { s with heap := h', toks := tk } ∧ St i h' ∧ h'.IsList D ys ∧ h'.Ns cenv.locals m' ∧ ys.size = i ∧ (∀ j v, ys[j]? = some v → F j v) ∧ i ≤ n ∧ k = n + 1 - i ∧
      (∀ b o, b ≠ cenv.locals → b ∉ wr → b ≠ D → s.heap.get? b = some o → h'.get? b = some o)) ?_ (n + 1)
    ⟨s.heap, s.toks, m, #[], 0, rfl, hst, hacc, hn, rfl, by simp, Nat.zero_le _, rfl, fun _ _ _ _ _ e => e⟩
  rintro k s' ⟨H, tk, m', ys, i, rfl, hst', hacc', hn', hyi, hF, hi, rfl, hk⟩
  show wpAny _ A ((compTurn (.ListComp elt [⟨.Tuple [.Name xi pk, .Name xc pv] x1 pt, iter, [], 0⟩] scope pos) 0 (.ref I) (.ref D) cenv).onRaise (fun x => do noteFrame x cenv; theTreesLotGoes x)) _ _ _
  refine wpAny_noted ?_
  rw [compTurn_list1]
  refine wpAny_bind (wpAny_standAt (wpAny_bind ?_))
  by_cases hlt : i < n
  · refine W.item i _ _ _ hlt hst' fun T vals h₁ tk₁ hPt _ hT hMid hk₁ => ?_
    obtain ⟨v0, v1, rfl⟩ := h2 i vals hPt
    refine wpAny_bind (W.go _ x1 pt i T _ _ _ hMid fun h₂ hst₂ hk₂ => ?_)
    have ht₂ : h₂.IsTuple T #[v0, v1] := hT.at fun o e => hk₂ T o (W.apart i T h₁ hMid) e
    refine wpAny_bind (wpAny_assign_Tuple hh ht₂ rfl rfl fun h₃ hx₃ => ?_)
    replace hx₃ : Heap.ExtBut h₂.objs.size h₂ h₃ := hx₃
    have up₃ : ∀ b o, h₂.get? b = some o → h₃.get? b = some o := fun b o x => hx₃ b o (Nat.ne_of_lt (Heap.lt_size x)) x
    have H3 : ∀ b o, b ∉ wr → H.get? b = some o → h₃.get? b = some o := fun b o hb x => up₃ b o (hk₂ b o hb (hk₁ b o hb x))
    show wpAny _ A (do holding [v1] (assign (.Name xi pk) cenv v0); do holding [] (assign (.Name xc pv) cenv v1); pure ()) _ _ _
    have hn₃ : h₃.Ns cenv.locals m' := hn'.at' fun o e => H3 _ o hCw e
    refine wpAny_bind (wpAny_holding (wpAny_assign_Name (wpAny_storeName_local hxi hn₃ (fun h₄ hn₄ hs₄ => ?_) hp)))
    replace hs₄ : Heap.SameBut cenv.locals h₃ h₄ := hs₄
    refine wpAny_bind (wpAny_holding (wpAny_assign_Name (wpAny_storeName_local hxc hn₄ (fun h₅ hn₅ hs₅ => wpAny_pure ?_) hp)))
    replace hs₅ : Heap.SameBut cenv.locals h₄ h₅ := hs₅
    have H5 : ∀ b o, b ≠ cenv.locals → b ∉ wr → H.get? b = some o → h₅.get? b = some o := fun b o hbC hb x => hs₅.extBut b o hbC (hs₄.extBut b o hbC (H3 b o hb x))
    have hst₅ : St (i + 1) h₅ := W.frame _ _ _ hst₂ fun b hb o e => hs₅.extBut b o (fun q => hCf (q ▸ hb)) (hs₄.extBut b o (fun q => hCf (q ▸ hb)) (up₃ b o e))
    refine wpAny_bind (wpAny_bind (wpAny_mono (helt i v0 v1 _ _ hlt hPt hn₅ (by simp [hne]) (by simp) fun b o hbC hbw hbD e => H5 b o hbC hbw (hk b o hbC hbw hbD e)) (fun y s₆ h₆ => ?_) fun _ _ x => x.elim))
    obtain ⟨hFy, h₆, tk₆, rfl, hk₆⟩ := h₆
    have hD₆ : h₆.IsList D ys := (hacc'.at fun o e => H5 D o hDC hDw e).at fun o e => hk₆ _ o e
    refine wpAny_bind (wpAny_list_append (hsz := by rw [sizeLine_eq]; omega) hD₆ fun h₇ hl₇ hs₇ => wpAny_pure (wpAny_pure ?_))
    replace hs₇ : Heap.SameBut D h₆ h₇ := hs₇
    refine ⟨rfl, n + 1 - (i + 1), by omega, h₇, tk₆, _, ys.push y, i + 1, rfl, ?_, hl₇, (hn₅.keeps hk₆).sameBut hs₇ (Ne.symm hDC), by simp [hyi], ?_, hlt, rfl, fun b o hbC hbw hbD e => hs₇.extBut b o hbD (hk₆ b o (H5 b o hbC hbw (hk b o hbC hbw hbD e)))⟩
    · exact W.frame _ _ _ hst₅ fun b hb o e => hs₇.extBut b o (fun q => hDf (q ▸ hb)) (hk₆ b o e)
    · intro j v hj
      rw [Array.getElem?_push] at hj
      split at hj
      · rename_i hjs
        injection hj with hj
        subst hj
        rw [hjs, hyi]; exact hFy
      · exact hF j v hj
  · have hin : i = n := by omega
    refine W.done _ _ _ (hin ▸ hst') fun h₁ tk₁ hk₁ => wpAny_pure ?_
    exact hR h₁ tk₁ m' ys (hn'.at' fun o e => hk₁ _ o hCw e) (hacc'.at fun o e => hk₁ _ o hDw e) (hyi.trans hin) hF fun b o hbC hbw hbD e => hk₁ b o hbw (hk b o hbC hbw hbD e)

theorem drawsU (hh : A.handled = none) (it : Addr) (x : Str) (t : Tok) : Draws prog w A it [it] x.cps.size (fun i v => ∃ c u, x.cps[i]? = some c ∧ v = .str ⟨#[c]⟩ u) (fun i h => h.IsStrIter it (strIterType x) x t i) := by
  cases ha : x.cps.all (· < 128)
  · have e : strIterType x = "str_iterator" := by simp [strIterType, ha]
    rw [e]; exact Draws.strWide hh it x t
  · have e : strIterType x = "str_ascii_iterator" := by simp [strIterType, ha]
    rw [e]; exact Draws.strAscii hh it x t
end
end Mine
end

section
open PySem PySem.Builtin PySem.Builtin.Str PySem.W PyProof.Rows
namespace Mine

/-- the sign at place k of a word, as _law_great gives it -/
def gr (k c : Nat) : Nat := if k = 0 then (if c = 97 then 65 else c) else if c = 66 then 98 else c
def greatL : List Nat → List Nat
  | [] => []
  | c :: r => (if c = 97 then 65 else c) :: r.map fun c => if c = 66 then 98 else c

theorem aB_codes : (("aB" : Str)).cps.toList = [97, 66] := by decide +kernel
theorem occ_aB {c : Nat} : (!(occurrences ("aB" : Str) ⟨#[c]⟩ 0 ("aB" : Str).length 1).isEmpty) = (c == 97 || c == 66) := by
  rw [StrLaws.found_one, aB_codes]
  by_cases h1 : c = 97
  · simp [h1]
  · by_cases h2 : c = 66
    · simp [h2]
    · simp [h1, h2]

theorem occ97 : occurrences ("aB" : Str) ⟨#[97]⟩ 0 ("aB" : Str).length 1 = [0] := by decide +kernel
theorem occ66 : occurrences ("aB" : Str) ⟨#[66]⟩ 0 ("aB" : Str).length 1 = [1] := by decide +kernel
theorem AB_len : (("AB" : Str).length : Int) = 2 := by decide +kernel
theorem AB_0 : Txt.item ("AB" : Str) ((0 : Nat) : Int) = ⟨#[gr 0 97]⟩ := by decide +kernel
theorem AB_1 : Txt.item ("AB" : Str) ((1 : Nat) : Int) = ⟨#[gr 0 66]⟩ := by decide +kernel

section
variable {prog : Program} {w : World} {A : Around} {E : Value → Shared → Prop} {s : Shared} {mg mb : Str → Option Value} {env : Env} {Q : Value → Shared → Prop}

theorem constS {M : Model} {x : Str} {k : Nat} {pos : Pos} (h : ∀ s' t, Keeps s s' → Q (.str x t) s') : wpAny M A (eval (.Constant (.str x) k pos) env) Q E s := Calls.Constant_str (h _ _ kTok)
theorem constI {M : Model} {i : Int} {k : Nat} {pos : Pos} (h : ∀ s' t, Keeps s s' → Q (.int i t) s') : wpAny M A (eval (.Constant (.int i) k pos) env) Q E s := wpAny_Constant_int (h _ _ kTok)
/-- a method of a text -/
theorem methS {recv : Expr} {n : Str} {id : String} {apos pos : Pos} {args : List Expr} (slot : Slot "str" n id) (hty : typeOf (.builtin id) = pure (.type "method_descriptor"))
    (h : wpAny (model prog w) A (eval recv env) (fun v s₁ => ∃ x t, v = .str x t ∧ wpAny (model prog w) A (callWith pos (.builtin id) [.str x t] (backTo pos (starEach args env)) []) Q E s₁) E s)
    (hbase : attributeBase recv n env (eval recv env) = eval recv env := by rfl)
    (hfew : ((backTo pos (starEach args env)).all (fun x => !x.1) && (backToKw pos (keywordEach [] env)).all (fun x => x.1.isSome)
      && decide (args.length + ([] : List Keyword).length + (if ([] : List Keyword).isEmpty then 0 else 1) < 30)) = true := by rfl)
    (hline : (apos.endLine == pos.line) = true := by rfl) :
    wpAny (model prog w) A (eval (.Call (.Attribute recv n apos) args [] pos) env) Q E s :=
  wpAny_Call_method hbase hfew hline F.plainAttrs_str slot hty (wpAny_mono h (fun v s₁ h₁ => by obtain ⟨x, t, rfl, h₁⟩ := h₁; exact ⟨typeIs_str _ _ _, (fun _ e => nomatch e), h₁⟩) fun _ _ e => e)

theorem gr_elt {c i : Nat} {u t0 : Tok} {m : Str → Option Value} {sc : Scope} {C : Addr} {E' : Value → Shared → Prop} (hn : s.heap.Ns C m) (hk : m "k" = some (.int i t0)) (hs : m "sign" = some (.str ⟨#[c]⟩ u))
    (p1 p2 p3 p4 p5 p6 p7 p8 p9 p10 p11 p12 p13 p14 p15 p16 p17 p18 p19 p20 : Pos) (hline : (p12.endLine == p14.line) = true)
    (hsc : sc = ⟨.function, [(".0", .local), ("k", .local), ("sign", .local)], false, false, []⟩) :
    wpAny (model prog w) A (eval (.IfExp (.BoolOp .And [.Compare (.Name "sign" p1) [.In] [.Constant (.str "aB") 0 p2] p3, .Compare (.Name "k" p4) [.Eq] [.Constant (.int 0) 0 p5] p6] p7)
      (.Subscript (.Constant (.str "AB") 0 p10) (.Call (.Attribute (.Constant (.str "aB") 0 p11) "index" p12) [.Name "sign" p13] [] p14) p15)
      (.IfExp (.Compare (.Name "sign" p16) [.Eq] [.Constant (.str "B") 0 p17] p18) (.Constant (.str "b") 0 p8) (.Name "sign" p9) p19) p20) (compEnv sc C env)) (fun y s' => (∃ u', y = .str ⟨#[gr i c]⟩ u') ∧ Keeps s s') E' s := by
  subst hsc
  refine wpAny_IfExp (isTrue_and (wpAny_isTrue_Compare1 (nameL hn hs (constS fun s₁ t₁ k₁ => in_str (wpAny_truthy_bool ?_)))))
  rw [occ_aB]
  have hn₁ := hn.keeps (kAll k₁)
  have els : ∀ s₂ : Shared, Keeps s s₂ → gr i c = (if c = 66 then 98 else c) → wpAny (model prog w) A (eval (.IfExp (.Compare (.Name "sign" p16) [.Eq] [.Constant (.str "B") 0 p17] p18) (.Constant (.str "b") 0 p8) (.Name "sign" p9) p19) (compEnv ⟨.function, [(".0", .local), ("k", .local), ("sign", .local)], false, false, []⟩ C env)) (fun y s' => (∃ u', y = .str ⟨#[gr i c]⟩ u') ∧ Keeps s s') E' s₂ := by
    intro s₂ k₂ hg
    have hn₂ := hn.keeps (kAll k₂)
    refine wpAny_IfExp (wpAny_isTrue_Compare1 (nameL hn₂ hs (constS fun s₃ t₃ k₃ => eq_str (wpAny_truthy_bool ?_))))
    have hn₃ := hn₂.keeps (kAll k₃)
    have hB : ((⟨#[c]⟩ : Str) == ("B" : Str)) = (c == 66) := by
      rw [← toList_beq, show (("B" : Str)).cps.toList = [66] by decide +kernel]
      simp
    rw [hB]
    by_cases h66 : c = 66
    · rw [if_pos (by simpa using h66)]
      refine constS fun s₄ t₄ k₄ => ⟨⟨t₄, ?_⟩, kTrans k₂ (kTrans k₃ k₄)⟩
      rw [hg, if_pos h66]; rfl
    · rw [if_neg (by simpa using h66)]
      refine nameL hn₃ hs ⟨⟨u, ?_⟩, kTrans k₂ k₃⟩
      rw [hg, if_neg h66]
  by_cases hc : (c == 97 || c == 66) = true
  · rw [if_pos hc]
    refine isTrue_and (wpAny_isTrue_Compare1 (nameL hn₁ hk (constI fun s₂ t₂ k₂ => eq_int (wpAny_truthy_bool ?_))))
    by_cases h0 : i = 0
    · subst h0
      rw [if_pos (by simp)]
      refine isTrue_and_nil ?_
      rw [if_pos rfl]
      refine Subscript_ (constS fun s₃ t₃ k₃ => ?_)
      refine methS (id := "str.index") ?a ?b ?c ?d ?e ?f
      case a => exact F.slot_str_index
      case b => exact F.type_str_index
      case d => rfl
      case e => rfl
      case f => exact hline
      refine constS fun s₄ t₄ k₄ => ⟨_, _, rfl, ?_⟩
      refine cwB1 ?_
      refine nameL ((hn₁.keeps (kAll k₂)).keeps (kAll (kTrans k₃ k₄))) hs ?_
      have K4 := kTrans k₁ (kTrans k₂ (kTrans k₃ k₄))
      rcases (by simpa using hc : c = 97 ∨ c = 66) with rfl | rfl
      · refine SC.index occ97 (item_str (by decide) (by rw [AB_len]; decide) (by rw [AB_len]; decide) fun _ => ?_)
        rw [AB_0]
        exact ⟨⟨_, rfl⟩, kTrans K4 (kTrans kTok kTok)⟩
      · refine SC.index occ66 (item_str (by decide) (by rw [AB_len]; decide) (by rw [AB_len]; decide) fun _ => ?_)
        rw [AB_1]
        exact ⟨⟨_, rfl⟩, kTrans K4 (kTrans kTok kTok)⟩
    · rw [if_neg (by simpa using h0)]
      rw [if_neg (by simp)]
      exact els _ (kTrans k₁ k₂) (by simp [gr, h0])
  · rw [if_neg hc, if_neg (by simp)]
    refine els _ k₁ ?_
    simp at hc
    unfold gr
    split
    · rw [if_neg hc.1, if_neg hc.2]
    · rfl

theorem great_gr (l : List Nat) : ∀ j c, l[j]? = some c → (greatL l)[j]? = some (gr j c) := by
  intro j c h
  cases l with
  | nil => simp at h
  | cons a r =>
    cases j with
    | zero => simp at h; subst h; simp [greatL, gr]
    | succ j => simp at h; simp [greatL, gr, h]
theorem great_len (l : List Nat) : (greatL l).length = l.length := by cases l <;> simp [greatL]
theorem singles_flat : ∀ (l : List (Str × Tok)) (g : List Nat), l.length = g.length → (∀ (j : Nat) p, l[j]? = some p → ∃ c, g[j]? = some c ∧ p.1 = ⟨#[c]⟩) → flat l = g
  | [], [], _, _ => rfl
  | p :: r, c :: g, hl, h => by
    obtain ⟨c', h1, h2⟩ := h 0 p rfl
    simp at h1; subst h1
    have := singles_flat r g (by simpa using hl) (fun j p hj => h (j + 1) p (by simpa using hj))
    show p.1.cps.toList ++ flat r = _
    rw [this, h2]; rfl

theorem singles_out {ys : Array Value} {g : List Nat} (hsz : ys.size = g.length) (hF : ∀ (j : Nat) v, ys[j]? = some v → ∃ c u, g[j]? = some c ∧ v = .str ⟨#[c]⟩ u) :
    ∃ l : List (Str × Tok), ys = (strValues l).toArray ∧ flat l = g ∧ l.length = g.length ∧ ∀ p ∈ l, p.1.length ≤ 1 := by
  obtain ⟨l, hl'⟩ := exists_strValues ys.toList fun v hv => by
    obtain ⟨j, hj, rfl⟩ := Array.mem_iff_getElem.mp (Array.mem_toList_iff.mp hv)
    obtain ⟨c, u, _, e⟩ := hF j _ (Array.getElem?_eq_getElem hj)
    exact ⟨_, _, e⟩
  have hys : ys = (strValues l).toArray := by rw [hl']
  have hlen : l.length = g.length := by rw [← hsz, hys]; simp [strValues]
  have hone : ∀ (j : Nat) p, l[j]? = some p → ∃ c, g[j]? = some c ∧ p.1 = ⟨#[c]⟩ := by
    intro j p hj
    obtain ⟨c, u, hc, e⟩ := hF j (.str p.1 p.2) (by rw [hys]; simp [strValues, hj])
    injection e with e1 e2
    exact ⟨_, hc, e1⟩
  refine ⟨l, hys, singles_flat l g hlen hone, hlen, fun p hp => ?_⟩
  obtain ⟨j, hj⟩ := List.getElem?_of_mem hp
  obtain ⟨c, _, e⟩ := hone j p hj
  rw [e]; exact Nat.le_refl _

theorem nil_codes : ("" : Str).cps.toList = [] := by decide +kernel
theorem nil_len : ("" : Str).length = 0 := by decide +kernel
theorem joinSingles {D : Addr} {ys : Array Value} {g : List Nat} {t : Tok} (hl : s.heap.IsList D ys) (hsz : ys.size = g.length) (hF : ∀ (j : Nat) v, ys[j]? = some v → ∃ c u, g[j]? = some c ∧ v = .str ⟨#[c]⟩ u) (hg : g.length ≤ 100000)
    (h : ∀ s' tk, Keeps s s' → Q (.str (S g) tk) s') : wpAny (model prog w) A (call (.builtin "str.join") [.str "" t, .ref D]) Q E s := by
  obtain ⟨l, rfl, hflat, hlen, hone⟩ := singles_out hsz hF
  refine SC.join hl rfl ?_ fun t' k' => ?_
  · unfold JoinOk
    rw [StrLaws.joinFits (B := 1)]
    · rfl
    · intro y hy; obtain ⟨z, hz, rfl⟩ := List.mem_map.mp hy; exact hone z hz
    · rw [nil_len]; simp; omega
  · rw [join_empty _ nil_codes, List.map_map]
    have e2 : (List.map ((fun x => x.cps.toList) ∘ fun x => x.fst) l).flatten = g := hflat
    rw [e2]
    exact h _ _ kTok

set_option maxHeartbeats 1000000 in
theorem call_great {x : Str} {t : Tok} (W : Wd mg mb s.heap) (hA : A.depth ≤ 500) (hh : A.handled = none) (hx : x.cps.size ≤ 1000)
    (h : ∀ s' tk, Keeps s s' → Q (.str (S (greatL x.cps.toList)) tk) s') : wpAny (model prog w) A (call (.ref 75) [.str x t]) Q E s := by
  refine enter (binds := [("word", .str x t)]) W W.fgreat hA (fun pm => .of_eq rfl) (by decide) (PyProof.Rows.locs rfl) fun pm L s₁ hns hL k => ?_
  have W1 := W.keeps (kAll k)
  refine wpAny_execs_cons (wpAny_Return_some (wpAny_Call_method rfl rfl rfl F.plainAttrs_str F.slot_str_join F.type_str_join ?_))
  refine constS fun s₂ t₂ k₂ => ⟨typeIs_str _ _ _, (fun _ e => nomatch e), ?_⟩
  have W2 := W1.keeps (kAll k₂)
  refine cwB1 ?_
  refine comp_frame (by decide) (by decide) rfl (by decide) ?_
  refine callN (nameB W2 W2.enum (cwT1 (nameL (hns.keeps (kAll k₂)) rfl ?_)))
  refine call_enumerate_str fun h' he hit hsz hk => ?_
  refine wpAny_pyIter_enum he ?_
  refine ⟨_, rfl, fun s' Q' E' K hQ => wpAny_pyIter_enum (kGet K he) hQ, fun s₃ hD hC K => ?_⟩
  dsimp only at hD hC ⊢
  have hC0 : h'.objs.size = s₂.heap.objs.size + 2 := hsz
  have hit3 : s₃.heap.IsStrIter s₂.heap.objs.size (strIterType x) x t 0 := by obtain ⟨o, e, r⟩ := hit; exact ⟨o, kGet K e, r⟩
  have WT := WalksT.enumerateD (prog := prog) (w := w) (A := A.deeper (callEnv (mkFd 11 "_law_great" .none 74 pm) L 75)) (drawsU (A := (A.deeper (callEnv (mkFd 11 "_law_great" .none 74 pm) L 75)).in1) hh s₂.heap.objs.size x t) (s₂.heap.objs.size + 1) (neN (by omega)) (by simp) (by simp)
  have n1 : ∀ b, b < s₂.heap.objs.size + 2 → b ≠ h'.objs.size ∧ b ≠ h'.objs.size + 1 := fun b hb => by rw [hC0]; omega
  refine compLoop_pair (s := s₃) (m := fun _ => none) hh WT (fun i vals hp => ?_) (fun i y => ∃ c u, x.cps[i]? = some c ∧ y = .str ⟨#[gr i c]⟩ u) rfl rfl (by decide) rfl (Nat.ne_of_lt (Nat.lt_succ_self h'.objs.size)) ?_ ?_ ⟨⟨.none, kGet K he⟩, hit3⟩ hD hC ?_ ?_ (by omega)
  · obtain ⟨t', y, _, rfl⟩ := hp; exact ⟨_, _, rfl⟩
  · intro hm
    rcases List.mem_cons.mp hm with e | hm
    · exact (n1 _ (by omega)).1 e.symm
    · exact (n1 _ (by omega)).1 (List.mem_singleton.mp hm).symm
  · intro hm
    rcases List.mem_cons.mp hm with e | hm
    · exact (n1 _ (by omega)).2 e.symm
    · exact (n1 _ (by omega)).2 (List.mem_singleton.mp hm).symm
  · intro i v0 v1 s₄ m₄ hi hp hn hm0 hm1 _
    obtain ⟨t', y, ⟨c, u, hc, rfl⟩, e⟩ := hp
    simp at e
    obtain ⟨rfl, rfl⟩ := e
    have hn' : s₄.heap.Ns (h'.objs.size + 1) m₄ := hn
    refine wpAny_mono (gr_elt hn' hm0 hm1 _ _ _ _ _ _ _ _ _ _ _ _ _ _ _ _ _ _ _ _ ?hl rfl) (fun y s' hy => ?_) fun _ _ x => x
    case hl => rfl
    obtain ⟨⟨u', rfl⟩, kk⟩ := hy
    exact ⟨⟨c, u', hc, rfl⟩, kk⟩
  · intro h₅ tk₅ m₅ ys hn hl hsz hF hk5
    refine ⟨⟨_, rfl⟩, m₅, hn, fun h₆ hs₆ => ?_⟩
    refine joinSingles (g := greatL x.cps.toList) (hl.extBut hs₆.extBut (Nat.ne_of_lt (Nat.lt_succ_self h'.objs.size))) (by rw [hsz, great_len]; simp) (fun j v hj => ?_) (by rw [great_len]; simp; omega) fun s₇ tk₇ k₇ => h _ _ (kTrans k (kTrans k₂ (kTrans ?_ k₇)))
    · obtain ⟨c, u, hc, rfl⟩ := hF j v hj
      exact ⟨_, u, great_gr _ j c (by simpa using hc), rfl⟩
    · obtain ⟨h3, tk3, rfl, kk⟩ := K
      refine ⟨h₆, tk₅, rfl, fun b o e => ?_⟩
      have hb := Heap.lt_size e
      have hb2 := n1 b (Nat.lt_succ_of_lt (Nat.lt_succ_of_lt hb))
      refine hs₆.extBut b o hb2.2 (hk5 b o hb2.2 ?_ hb2.1 (kk b o (hk b o e)))
      intro hm
      rcases List.mem_cons.mp hm with e | hm
      · exact Nat.ne_of_lt (Nat.lt_succ_of_lt hb) e
      · exact Nat.ne_of_lt hb (List.mem_singleton.mp hm)
end
end Mine
end

section
open PySem PySem.Builtin PySem.Builtin.Str PySem.W PyProof.Rows
namespace Mine

def joinL (sep : List Nat) : List (List Nat) → List Nat
  | [] => []
  | [p] => p
  | p :: q :: r => p ++ sep ++ joinL sep (q :: r)
/-- the pieces between the signs of a kind -/
def splitP (p : Nat → Bool) : List Nat → List (List Nat)
  | [] => [[]]
  | c :: r => if p c then [] :: splitP p r else match splitP p r with
    | [] => [[c]]
    | a :: q => (c :: a) :: q

theorem splitP_ne (p : Nat → Bool) : ∀ l, ∃ a q, splitP p l = a :: q
  | [] => ⟨_, _, rfl⟩
  | c :: r => by
    obtain ⟨a, q, h⟩ := splitP_ne p r
    rw [splitP, h]
    split
    · exact ⟨_, _, rfl⟩
    · exact ⟨_, _, rfl⟩
theorem splitP_free (p : Nat → Bool) : ∀ l, (∀ c ∈ l, p c = false) → splitP p l = [l]
  | [], _ => rfl
  | c :: r, h => by
    rw [splitP, splitP_free p r fun x hx => h x (List.mem_cons_of_mem _ hx), if_neg (by rw [h c List.mem_cons_self]; simp)]
theorem splitP_cut (p : Nat → Bool) (d : Nat) (hd : p d = true) : ∀ a b, (∀ c ∈ a, p c = false) → splitP p (a ++ d :: b) = a :: splitP p b
  | [], b, _ => by rw [List.nil_append, splitP, if_pos hd]
  | c :: r, b, h => by
    rw [List.cons_append, splitP, splitP_cut p d hd r b fun x hx => h x (List.mem_cons_of_mem _ hx), if_neg (by rw [h c List.mem_cons_self]; simp)]
theorem split_unique (d : Nat) : ∀ parts : List (List Nat), parts ≠ [] → (∀ a ∈ parts, d ∉ a) → splitP (· == d) (joinL [d] parts) = parts
  | [], h, _ => absurd rfl h
  | [a], _, h => splitP_free _ _ fun c hc => by
    have := h a List.mem_cons_self
    simp; rintro rfl; exact this hc
  | a :: b :: r, _, h => by
    have ih := split_unique d (b :: r) (by simp) fun x hx => h x (List.mem_cons_of_mem _ hx)
    show splitP (· == d) (a ++ [d] ++ joinL [d] (b :: r)) = _
    rw [List.append_assoc, List.singleton_append, splitP_cut _ d (by simp) a _ fun c hc => by
      have := h a List.mem_cons_self
      simp; rintro rfl; exact this hc, ih]

theorem join_joinL (sep : Str) : ∀ texts : List Str, (Str.join sep texts).cps.toList = joinL sep.cps.toList (texts.map (·.cps.toList))
  | [] => rfl
  | [x] => rfl
  | x :: y :: r => by
    have ih := join_joinL sep (y :: r)
    show ((x ++ sep ++ Str.join sep (y :: r)).cps).toList = _
    rw [Str.cps_append, Str.cps_append, Array.toList_append, Array.toList_append, ih]
    rfl
theorem txt_join (sep : Str) (texts : List (List Nat)) : Txt.join sep (texts.map S) = S (joinL sep.cps.toList texts) := by
  show glued sep _ = _
  rw [StrLaws.glued_eq_join, ← S_cps (Str.join sep _), join_joinL, List.map_map]
  congr 2
  induction texts with
  | nil => rfl
  | cons a r ih => rw [List.map_cons, ih]; simp [S]

theorem split_ne (x y : Str) : Txt.split x y ≠ [] := by
  unfold Txt.split
  split
  · simp
  · split
    · simp
    · rw [StrLaws.partsBetween_eq]
      obtain ⟨p, r, h⟩ := StrLaws.partsFrom_ne x y.length 0 (occurrences x y 0 x.length (x.length + 1))
      rw [h]; simp

theorem txt_split (x : Str) (d : Nat) : Txt.split x ⟨#[d]⟩ = (splitP (· == d) x.cps.toList).map S := by
  have h1 := congrArg (fun z => z.cps.toList) (StrLaws.join_split x ⟨#[d]⟩)
  rw [join_joinL] at h1
  have h2 := split_unique d ((Txt.split x ⟨#[d]⟩).map (·.cps.toList)) (by simp [split_ne]) (by
    intro a ha
    obtain ⟨p, hp, rfl⟩ := List.mem_map.mp ha
    exact StrLaws.split_free x d p hp)
  rw [show ([d] : List Nat) = (⟨#[d]⟩ : Str).cps.toList from rfl, h1] at h2
  rw [h2, List.map_map]
  symm
  apply List.map_id''
  intro z
  exact S_cps z

theorem splitP_len (p : Nat → Bool) : ∀ l, (splitP p l).length ≤ l.length + 1
  | [] => by simp [splitP]
  | c :: r => by
    have ih := splitP_len p r
    rw [splitP]
    split
    · simp; omega
    · obtain ⟨a, q, h⟩ := splitP_ne p r
      rw [h] at ih ⊢
      simp at ih ⊢; omega
theorem splitP_sub (p : Nat → Bool) : ∀ l, ∀ a ∈ splitP p l, a.length ≤ l.length ∧ ∀ c ∈ a, c ∈ l
  | [], a, h => by simp [splitP] at h; subst h; simp
  | c :: r, a, h => by
    have ih := splitP_sub p r
    rw [splitP] at h
    split at h
    · rcases List.mem_cons.mp h with rfl | h
      · simp
      · have := ih a h
        exact ⟨by simp; omega, fun x hx => List.mem_cons_of_mem _ (this.2 x hx)⟩
    · obtain ⟨b, q, e⟩ := splitP_ne p r
      rw [e] at h ih
      rcases List.mem_cons.mp h with rfl | h
      · have := ih b List.mem_cons_self
        refine ⟨by simp; omega, fun x hx => ?_⟩
        rcases List.mem_cons.mp hx with rfl | hx
        · exact List.mem_cons_self
        · exact List.mem_cons_of_mem _ (this.2 x hx)
      · have := ih a (List.mem_cons_of_mem _ h)
        exact ⟨by simp; omega, fun x hx => List.mem_cons_of_mem _ (this.2 x hx)⟩
theorem splitP_not (p : Nat → Bool) : ∀ l, ∀ a ∈ splitP p l, ∀ c ∈ a, p c = false
  | [], a, h => by simp [splitP] at h; subst h; simp
  | c :: r, a, h => by
    have ih := splitP_not p r
    rw [splitP] at h
    split at h
    · rcases List.mem_cons.mp h with rfl | h
      · simp
      · exact ih a h
    · rename_i hc
      obtain ⟨b, q, e⟩ := splitP_ne p r
      rw [e] at h ih
      rcases List.mem_cons.mp h with rfl | h
      · intro x hx
        rcases List.mem_cons.mp hx with rfl | hx
        · simpa using hc
        · exact ih b List.mem_cons_self x hx
      · exact ih a (List.mem_cons_of_mem _ h)
/-- the words -/
def wordsP (p : Nat → Bool) (l : List Nat) : List (List Nat) := (splitP p l).filter fun a => !a.isEmpty

theorem splitP_mid (p : Nat → Bool) (d : Nat) (hd : p d = true) : ∀ a b, splitP p (a ++ d :: b) = splitP p a ++ splitP p b
  | [], b => by
    rw [List.nil_append]
    show (if p d then [] :: splitP p b else _) = _
    rw [if_pos hd]; rfl
  | c :: r, b => by
    have ih := splitP_mid p d hd r b
    rw [List.cons_append, splitP, splitP, ih]
    split
    · rfl
    · obtain ⟨x, q, e⟩ := splitP_ne p r
      rw [e]; rfl
theorem wordsP_mid (p : Nat → Bool) (d : Nat) (hd : p d = true) (a b : List Nat) : wordsP p (a ++ d :: b) = wordsP p a ++ wordsP p b := by
  unfold wordsP
  rw [splitP_mid p d hd, List.filter_append]
theorem splitP_congr (p q : Nat → Bool) : ∀ l, (∀ c ∈ l, p c = q c) → splitP p l = splitP q l
  | [], _ => rfl
  | c :: r, h => by rw [splitP, splitP, h c List.mem_cons_self, splitP_congr p q r fun x hx => h x (List.mem_cons_of_mem _ hx)]
end Mine
end

section
open PySem PySem.Builtin PySem.Builtin.Str PySem.W PyProof.Rows
namespace Mine
section
variable {prog : Program} {w : World} {A : Around} {E : Value → Shared → Prop} {s : Shared} {mg mb : Str → Option Value} {env : Env} {Q : Value → Shared → Prop}

theorem blank_eq : (" " : Str) = ⟨#[32]⟩ := by decide +kernel
theorem paired_eq {α : Type} : ∀ {l₁ l₂ : List α}, Paired (fun v y => y = v) l₁ l₂ → l₂ = l₁
  | _, _, .nil => rfl
  | _, _, .cons h t => by rw [h, paired_eq t]

def strNe (v : Value) : Bool := match v with | .str y _ => y != ("" : Str) | _ => false

theorem filter_strValues (l : List (Str × Tok)) : (strValues l).filter strNe = strValues (l.filter fun p => p.1 != ("" : Str)) := by
  induction l with
  | nil => rfl
  | cons a r ih =>
    show List.filter strNe (.str a.1 a.2 :: strValues r) = _
    rw [List.filter_cons, List.filter_cons, ih]
    show (if (a.1 != ("" : Str)) = true then _ else _) = _
    split <;> simp [strValues, *]

theorem filter_words (l : List (Str × Tok)) (x : Str) (h : l.map (·.1) = (splitP (· == 32) x.cps.toList).map S) : (l.filter fun p => p.1 != ("" : Str)).map (·.1) = (wordsP (· == 32) x.cps.toList).map S := by
  rw [show (fun p : Str × Tok => p.1 != ("" : Str)) = (fun y : Str => y != ("" : Str)) ∘ (fun p : Str × Tok => p.1) from rfl, ← List.filter_map, h, List.filter_map]
  unfold wordsP
  congr 1
  apply List.filter_congr
  intro a _
  show (S a != ("" : Str)) = _
  rw [← toList_bne, nil_codes, S_toList]
  cases a <;> simp

theorem kBut {s s₃ : Shared} {L : Addr} {h₄ : Heap} {tk : Nat} (k : Keeps s s₃) (hL : s.heap.objs.size ≤ L) (h : ∀ b o, b ≠ L → s₃.heap.get? b = some o → h₄.get? b = some o) : Keeps s { s₃ with heap := h₄, toks := tk } := by
  obtain ⟨h3, tk3, rfl, kk⟩ := k
  exact ⟨h₄, tk, rfl, fun b o e => h b o (Nat.ne_of_lt (Nat.lt_of_lt_of_le (Heap.lt_size e) hL)) (kk b o e)⟩

theorem paired_great : ∀ {l : List (Str × Tok)} {ys : List Value}, Paired (fun v y => ∃ a t u, v = Value.str a t ∧ y = Value.str (S (greatL a.cps.toList)) u) (strValues l) ys →
    ∃ l' : List (Str × Tok), ys = strValues l' ∧ l'.map (·.1) = l.map fun p => S (greatL p.1.cps.toList)
  | [], _, .nil => ⟨[], rfl, rfl⟩
  | p :: r, _, .cons h t => by
    obtain ⟨l', e1, e2⟩ := paired_great (l := r) t
    obtain ⟨a, t, u, e, rfl⟩ := h
    injection e with e3 e4
    refine ⟨(S (greatL a.cps.toList), u) :: l', by rw [e1]; rfl, ?_⟩
    rw [List.map_cons, List.map_cons, e2, e3]

theorem great_words {l l' : List (Str × Tok)} {ws : List (List Nat)} (h1 : l.map (·.1) = ws.map S) (h2 : l'.map (·.1) = l.map fun p => S (greatL p.1.cps.toList)) : l'.map (·.1) = (ws.map greatL).map S := by
  rw [h2, show (fun p : Str × Tok => S (greatL p.1.cps.toList)) = (fun y : Str => S (greatL y.cps.toList)) ∘ (·.1) from rfl, ← List.map_map, h1, List.map_map, List.map_map]
  apply List.map_congr_left
  intro a _
  simp [S]
theorem mem_filter_words {l : List (Str × Tok)} {ws : List (List Nat)} {B : Nat} (h1 : l.map (·.1) = ws.map S) (hB : ∀ a ∈ ws, a.length ≤ B) : ∀ p ∈ l, p.1.length ≤ B := by
  intro p hp
  have : p.1 ∈ ws.map S := h1 ▸ List.mem_map_of_mem hp
  obtain ⟨a, ha, e⟩ := List.mem_map.mp this
  rw [← e, S_length]; exact hB a ha

set_option maxHeartbeats 1000000 in
theorem call_words {x : Str} {t : Tok} (W : Wd mg mb s.heap) (hA : A.depth ≤ 400) (hh : A.handled = none) (hx : x.cps.size ≤ 1000)
    (h : ∀ D l s', l.map (·.1) = ((wordsP (· == 32) x.cps.toList).map greatL).map S → Keeps s s' → s'.heap.IsList D (strValues l).toArray → s.heap.get? D = none → Q (.ref D) s') : wpAny (model prog w) A (call (.ref 80) [.str x t]) Q E s := by
  refine enter (binds := [("row", .str x t)]) W W.fwords (by omega) (fun pm => .of_eq rfl) (by decide) (PyProof.Rows.locs rfl) fun pm L s₁ hns hL k => ?_
  have W1 := W.keeps (kAll k)
  have hsplit := txt_split x 32
  have hlen := splitP_len (· == 32) x.cps.toList
  refine wpAny_execs_cons (wpAny_Assign_ListComp_map strNe (fun v y => y = v) rfl hh (by decide) (by decide) rfl (by decide) rfl rfl rfl ?_)
  refine wpAny_Call_method rfl rfl rfl F.plainAttrs_str F.slot_str_split F.type_str_split (nameL hns rfl ⟨typeIs_str _ _ _, (fun _ e => nomatch e), ?_⟩)
  refine cwB1 (constS fun s₂ t₂ k₂ => ?_)
  rw [blank_eq]
  refine SCG.split1 (Fm := Keeps s₁) (pushKeeps s₁) k₂ rfl (fun D l s₃ hl k₃ hD => ?_) (by rw [sizeLine_eq]; show x.cps.size ≤ _; omega) ?_
  · refine ⟨D, _, _, rfl, hD, ?_, hns.keeps (kAll k₃), ?_, ?_, ?_⟩
    · simp [strValues]
      have := congrArg List.length hl
      rw [hsplit] at this
      simp at this
      rw [sizeLine_eq]
      simp at hlen
      omega
    · intro C v s₄ m₄ E' hv hn hm hk
      refine wpAny_tests_one (wpAny_isTrue_Compare1 (nameL hn hm ?_))
      obtain ⟨y, u, rfl⟩ : ∃ y u, v = .str y u := by
        simp [strValues] at hv
        obtain ⟨a, b, _, rfl⟩ := hv
        exact ⟨_, _, rfl⟩
      refine constS fun s₅ t₅ k₅ => ne_str (wpAny_truthy_bool ⟨rfl, k₅⟩)
    · intro C v s₄ m₄ E' hv hp hn hm hk
      exact nameL hn hm ⟨rfl, kRefl⟩
    · intro D2 h₄ tk₄ ys hnew hD2 hP hn4 hk4
      have hys : ys = (strValues (l.filter fun p => p.1 != ("" : Str))).toArray := by
        have e := paired_eq hP
        rw [show ((strValues l).toArray.toList) = strValues l from rfl, filter_strValues] at e
        rw [← e]
      have hw := filter_words l x (hl.trans hsplit)
      generalize (l.filter fun p => p.1 != ("" : Str)) = l₂ at hys hw
      subst hys
      have hwl : ∀ a ∈ wordsP (· == 32) x.cps.toList, a.length ≤ 1000 := fun a ha => by
        have h1 := splitP_sub _ _ a (List.mem_filter.mp ha).1
        simp at h1; omega
      have hl2 := mem_filter_words hw hwl
      have hn2 : l₂.length ≤ 1001 := by
        have h1 := congrArg List.length hw
        have h2 : (wordsP (· == 32) x.cps.toList).length ≤ (splitP (· == 32) x.cps.toList).length := List.length_filter_le _ _
        simp at h1 hlen; omega
      have K4 : Keeps s { s₃ with heap := h₄, toks := tk₄ } := kBut (kTrans k k₃) hL hk4
      have W4 := W.keeps (kAll K4)
      refine wpAny_execs_cons (wpAny_Return_some (wpAny_ListComp_map (fun _ => true) (fun v y => ∃ a t u, v = Value.str a t ∧ y = Value.str (S (greatL a.cps.toList)) u) hh (by decide) (by decide) rfl (by decide) rfl ?_))
      refine nameL hn4 rfl ⟨D2, _, rfl, hD2, ?_, ?_, ?_, ?_⟩
      · simp [strValues]; rw [sizeLine_eq]; omega
      · intro C v s₅ m₅ E' hv hn hm hk
        exact wpAny_tests_nil ⟨rfl, kRefl⟩
      · intro C v s₅ m₅ E' hv _ hn hm hk
        obtain ⟨y, u, rfl, hy⟩ : ∃ y u, v = .str y u ∧ y.length ≤ 1000 := by
          simp [strValues] at hv
          obtain ⟨a, b, hab, rfl⟩ := hv
          exact ⟨_, _, rfl, hl2 _ hab⟩
        have W5 := W4.keeps hk
        refine callN (nameG W5 W5.great (cwF1 (nameL hn hm ⟨W5.fgreat, ?_⟩)))
        exact call_great W5 (by show A.depth + 1 ≤ 500; omega) hh hy fun s₆ t₆ k₆ => ⟨⟨y, u, t₆, rfl, rfl⟩, k₆⟩
      · intro D3 h₅ tk₅ ys hnew3 hD3 hP3 hk5
        have e0 : List.filter (fun _ => true) (strValues l₂).toArray.toList = strValues l₂ := by simp
        rw [e0] at hP3
        obtain ⟨l₃, e1, e2⟩ := paired_great hP3
        have hys3 : ys = (strValues l₃).toArray := by rw [← e1]
        rw [hys3] at hD3
        refine h D3 l₃ _ (great_words hw e2) (kTrans K4 ⟨h₅, tk₅, rfl, hk5⟩) hD3 ?_
        cases e : s.heap.get? D3 with
        | none => rfl
        | some o => have e' := kGet K4 e; rw [hnew3] at e'; cases e'
  · have h1 := parts_le x ⟨#[32]⟩ (occurrences x ⟨#[32]⟩ 0 x.length (x.length + 1)) (⟨#[32]⟩ : Str).length
    have h2 := StrLaws.occ_length_le x ⟨#[32]⟩ 0 x.length (x.length + 1)
    have h3 : x.length ≤ 1000 := hx
    rw [sizeLine_eq]
    omega
end
end Mine
end

section
open PySem PySem.Builtin PySem.Builtin.Str PySem.W PyProof.Rows
namespace Mine

abbrev zs1 (h : Heap) (x : Str) (t : Tok) : Heap := h.push { cls := .type (strIterType x), data := .fields #[.str x t, .int 0 0] }
abbrev zs2 (h : Heap) (x : Str) (t : Tok) (y : Str) (u : Tok) : Heap := (zs1 h x t).push { cls := .type (strIterType y), data := .fields #[.str y u, .int 0 0] }
abbrev zs3 (h : Heap) (x : Str) (t : Tok) (y : Str) (u : Tok) : Heap := (zs2 h x t y u).push { cls := .type "tuple", data := .seq #[.ref h.objs.size, .ref (zs1 h x t).objs.size] }
abbrev zs4 (h : Heap) (x : Str) (t : Tok) (y : Str) (u : Tok) : Heap := (zs3 h x t y u).push { cls := .type "tuple", data := .seq #[.none, .none] }
abbrev zs5 (h : Heap) (x : Str) (t : Tok) (y : Str) (u : Tok) : Heap := (zs4 h x t y u).push { cls := .type "zip", data := .fields #[.none, .bool false, .bool false, .ref (zs2 h x t y u).objs.size, .ref (zs3 h x t y u).objs.size] }

set_option maxHeartbeats 2000000 in
theorem meets_zip_strs (x y : Str) (t u : Tok) :
    Meets (Builtin.«zip.__new__» ⟨[.type "zip", .str x t, .str y u], []⟩) (fun _ R s => R (.ok (.ret (.ref (zs4 s.heap x t y u).objs.size))) { s with heap := zs5 s.heap x t y u }) :=
  .of_wp fun prog w A R s h => by
    obtain ⟨hp, g, d, tk, os⟩ := s
    have hsub := sub_zip
    wp_walk using wpAny_pyIter_strU
    exact ⟨_, rfl, h⟩

section
variable {prog : Program} {w : World} {A : Around} {E : Value → Shared → Prop} {s : Shared}

theorem call_zip_strs {x y : Str} {t u : Tok} {Q : Value → Shared → Prop}
    (h : ∀ h', IsZip h' (s.heap.objs.size + 4) (s.heap.objs.size + 2) (s.heap.objs.size + 3) .none → IsPair h' (s.heap.objs.size + 2) (.ref s.heap.objs.size) (.ref (s.heap.objs.size + 1)) →
      IsPair h' (s.heap.objs.size + 3) .none .none → h'.IsStrIter s.heap.objs.size (strIterType x) x t 0 → h'.IsStrIter (s.heap.objs.size + 1) (strIterType y) y u 0 → h'.objs.size = s.heap.objs.size + 5 →
      (∀ c o, s.heap.get? c = some o → h'.get? c = some o) → Q (.ref (s.heap.objs.size + 4)) { s with heap := h' }) :
    wpAny (model prog w) A (call (.type "zip") [.str x t, .str y u]) Q E s := by
  refine callType_new F.called_zip (by decide) (F.typeCall_zip_2 _ _) (F.newCall_zip_2 _ _) (fun obj => F.args_object_init_3 obj _ _) F.entry_zip_new (meets_zip_strs x y t u) ?_
  have z1 : (zs1 s.heap x t).objs.size = s.heap.objs.size + 1 := Heap.size_push ..
  have z2 : (zs2 s.heap x t y u).objs.size = s.heap.objs.size + 2 := by rw [Heap.size_push, z1]
  have z3 : (zs3 s.heap x t y u).objs.size = s.heap.objs.size + 3 := by rw [Heap.size_push, z2]
  have z4 : (zs4 s.heap x t y u).objs.size = s.heap.objs.size + 4 := by rw [Heap.size_push, z3]
  have z5 : (zs5 s.heap x t y u).objs.size = s.heap.objs.size + 5 := by rw [Heap.size_push, z4]
  have g5 : (zs5 s.heap x t y u).get? (zs4 s.heap x t y u).objs.size = some _ := Heap.get?_push_size _ rfl
  have g4 : (zs5 s.heap x t y u).get? (zs3 s.heap x t y u).objs.size = some _ := Heap.get?_push_of_some _ (Heap.get?_push_size _ rfl)
  have g3 : (zs5 s.heap x t y u).get? (zs2 s.heap x t y u).objs.size = some _ := Heap.get?_push_of_some _ (Heap.get?_push_of_some _ (Heap.get?_push_size _ rfl))
  have g2 : (zs5 s.heap x t y u).get? (zs1 s.heap x t).objs.size = some _ := Heap.get?_push_of_some _ (Heap.get?_push_of_some _ (Heap.get?_push_of_some _ (Heap.get?_push_size _ rfl)))
  have g1 : (zs5 s.heap x t y u).get? s.heap.objs.size = some _ := Heap.get?_push_of_some _ (Heap.get?_push_of_some _ (Heap.get?_push_of_some _ (Heap.get?_push_of_some _ (Heap.get?_push_size _ rfl))))
  show _ ∧ _
  rw [z2, z3, z4] at g5
  rw [z1, z2] at g3
  rw [z3] at g4
  rw [z1] at g2
  rw [z4]
  exact ⟨⟨_, g5, rfl⟩, h _ g5 g3 g4 ⟨_, g1, rfl, rfl⟩ ⟨_, g2, rfl, rfl⟩ z5 fun c o x =>
    Heap.get?_push_of_some _ (Heap.get?_push_of_some _ (Heap.get?_push_of_some _ (Heap.get?_push_of_some _ (Heap.get?_push_of_some _ x))))⟩

structure ZipFar (z TI TO i1 i2 : Addr) : Prop where
  TIz : TI ≠ z
  TOz : TO ≠ z
  i1z : i1 ≠ z
  i2z : i2 ≠ z
  TITO : TI ≠ TO
  TIi1 : TI ≠ i1
  TIi2 : TI ≠ i2
  TOi1 : TO ≠ i1
  TOi2 : TO ≠ i2
  i12 : i1 ≠ i2

variable {z TI TO i1 i2 : Addr} {n n2 : Nat} {P1 P2 : Nat → Value → Prop} {St1 St2 : Nat → Heap → Prop}

theorem zipD_item {i : Nat} {a b : Value} {Q : Value → Shared → Prop} (F : ZipFar z TI TO i1 i2) (D1 : Draws prog w A i1 [i1] n P1 St1) (D2 : Draws prog w A i2 [i2] n2 P2 St2)
    (hz : IsZip s.heap z TI TO .none) (hTI : IsPair s.heap TI (.ref i1) (.ref i2)) (hTO : IsPair s.heap TO a b) (h1 : St1 i s.heap) (h2 : St2 i s.heap) (hi : i < n) (hi2 : i < n2)
    (hQ : ∀ h' tk x y, P1 i x → P2 i y → IsZip h' z TI TO (rawInt s.heap.objs.size) → IsPair h' TO x y → St1 (i + 1) h' → St2 (i + 1) h' → IsPair h' s.heap.objs.size x y → h'.objs.size = s.heap.objs.size + 1 →
      (∀ c o, c ≠ z → c ≠ TO → c ≠ i1 → c ≠ i2 → s.heap.get? c = some o → h'.get? c = some o) → Q (.ref s.heap.objs.size) { s with heap := h', toks := tk }) :
    wpAny (model prog w) A (Builtin.«zip.__next__» ⟨[.ref z], []⟩) (fun fin s' => ∃ v, fin = .done (.ret v) ∧ Q v s') E s := by
  have f1 : ∀ {h h' : Heap} {j : Nat}, St1 j h → (∀ o, h.get? i1 = some o → h'.get? i1 = some o) → St1 j h' := fun {h h' j} st e => D1.frame j h h' st fun b hb o e' => by
    have hb := List.mem_singleton.mp hb
    subst hb; exact e o e'
  have f2 : ∀ {h h' : Heap} {j : Nat}, St2 j h → (∀ o, h.get? i2 = some o → h'.get? i2 = some o) → St2 j h' := fun {h h' j} st e => D2.frame j h h' st fun b hb o e' => by
    have hb := List.mem_singleton.mp hb
    subst hb; exact e o e'
  show wpAny _ _ (field (.ref z) 2 >>= _) _ _ _
  refine wpAny_bind (wpAny_field hz rfl (x := .bool false) rfl ?_)
  show wpAny _ _ (field (.ref z) 3 >>= _) _ _ _
  refine wpAny_bind (wpAny_field hz rfl (x := .ref TI) rfl ?_)
  refine wpAny_bind (wpAny_seqItems hTI rfl ?_)
  show wpAny _ _ (Builtin.SmallTypes.ownedTupleIsFree (.ref z) >>= _) _ _ _
  refine wpAny_bind ?_
  unfold Builtin.SmallTypes.ownedTupleIsFree
  refine wpAny_bind (wpAny_field hz rfl (x := .none) rfl (wpAny_pure ?_))
  simp only [if_true]
  refine wpAny_bind (wpAny_rule ?_)
  refine wpAny_bind (wpAny_field hz rfl (x := .ref TO) rfl ?_)
  refine wpAny_bind (wpAny_setField_rec hz (by simp) fun h₁ hz₁ hs₁ => ?_)
  replace hz₁ : IsZip h₁ z TI TO .ellipsis := hz₁
  refine wpAny_bind ?_
  simp only [List.zipIdx_cons, List.zipIdx_nil, List.forIn_cons, List.forIn_nil]
  refine wpAny_bind (wpAny_bind (wpAny_onRaise ?_))
  show wpAny _ _ (Builtin.SmallTypes.nextOf (.ref i1) >>= _) _ _ _
  refine wpAny_bind (D1.item i _ _ _ hi (f1 h1 fun o e => hs₁.extBut _ o F.i1z e) fun x h₂ tk₂ hx h1₂ hs₂ => wpAny_pure ?_)
  have hTO₂ : IsPair h₂ TO a b := hs₂.extBut _ _ F.TOi1 (hs₁.extBut _ _ F.TOz hTO)
  refine wpAny_bind (wpAny_seqItems hTO₂ rfl ?_)
  refine wpAny_bind (wpAny_updateSeq_pair hTO₂ fun h₃ hTO₃ hs₃ => ?_)
  replace hTO₃ : IsPair h₃ TO x b := hTO₃
  refine wpAny_bind (wpAny_letGo (wpAny_pure ?_))
  refine wpAny_bind (wpAny_bind (wpAny_onRaise ?_))
  show wpAny _ _ (Builtin.SmallTypes.nextOf (.ref i2) >>= _) _ _ _
  refine wpAny_bind (D2.item i _ _ _ hi2 (f2 h2 fun o e => hs₃.extBut _ o F.TOi2.symm (hs₂.extBut _ o F.i12.symm (hs₁.extBut _ o F.i2z e))) fun y h₄ tk₄ hy h2₄ hs₄ => wpAny_pure ?_)
  have hTO₄ : IsPair h₄ TO x b := hs₄.extBut _ _ F.TOi2 hTO₃
  refine wpAny_bind (wpAny_seqItems hTO₄ rfl ?_)
  refine wpAny_bind (wpAny_updateSeq_pair hTO₄ fun h₅ hTO₅ hs₅ => ?_)
  replace hTO₅ : IsPair h₅ TO x y := hTO₅
  refine wpAny_bind (wpAny_letGo (wpAny_pure (wpAny_pure ?_)))
  refine wpAny_bind (wpAny_seqItems hTO₅ rfl ?_)
  refine wpAny_bind (wpAny_newTuple ?_)
  have hsz : h₅.objs.size = s.heap.objs.size := by rw [hs₅.1, hs₄.1, hs₃.1, hs₂.1, hs₁.1]
  have hz₅ : IsZip h₅ z TI TO .ellipsis := hs₅.extBut _ _ F.TOz.symm (hs₄.extBut _ _ F.i2z.symm (hs₃.extBut _ _ F.TOz.symm (hs₂.extBut _ _ F.i1z.symm hz₁)))
  have hk₅ : ∀ c o, c ≠ z → c ≠ TO → c ≠ i1 → c ≠ i2 → s.heap.get? c = some o → h₅.get? c = some o := fun c o c1 c2 c3 c4 e =>
    hs₅.extBut _ _ c2 (hs₄.extBut _ _ c4 (hs₃.extBut _ _ c2 (hs₂.extBut _ _ c3 (hs₁.extBut _ _ c1 e))))
  have h1₅ : St1 (i + 1) h₅ := f1 h1₂ fun o e => hs₅.extBut _ o F.TOi1.symm (hs₄.extBut _ o F.i12 (hs₃.extBut _ o F.TOi1.symm e))
  have h2₅ : St2 (i + 1) h₅ := f2 h2₄ fun o e => hs₅.extBut _ o F.TOi2.symm e
  have hzlt : z < h₅.objs.size := Heap.lt_size hz₅
  show wpAny _ _ (Builtin.SmallTypes.ownedTupleHandOut (.ref z) (.ref h₅.objs.size) >>= _) _ _ _
  refine wpAny_bind ?_
  unfold Builtin.SmallTypes.ownedTupleHandOut
  have hz₆ : IsZip (h₅.push { cls := .type "tuple", data := .seq #[x, y] }) z TI TO .ellipsis := Heap.get?_push_of_some _ hz₅
  refine wpAny_bind (wpAny_setField_rec hz₆ (by simp) fun h₇ hz₇ hs₇ => ?_)
  replace hz₇ : IsZip h₇ z TI TO (rawInt h₅.objs.size) := hz₇
  refine wpAny_setField_rec hz₇ (by simp) fun h₈ hz₈ hs₈ => ?_
  replace hz₈ : IsZip h₈ z TI TO (rawInt h₅.objs.size) := hz₈
  have up : ∀ c o, c ≠ z → h₅.get? c = some o → h₈.get? c = some o := fun c o c1 e => hs₈.extBut _ _ c1 (hs₇.extBut _ _ c1 (Heap.get?_push_of_some _ e))
  have hT₈ : IsPair h₈ h₅.objs.size x y := hs₈.extBut _ _ (Nat.ne_of_gt hzlt) (hs₇.extBut _ _ (Nat.ne_of_gt hzlt) (Heap.get?_push_size _ rfl))
  have hz8 : h₈.objs.size = h₅.objs.size + 1 := by rw [hs₈.1, hs₇.1, Heap.size_push]
  rw [hsz] at hz₈ hT₈ hz8
  refine wpAny_pure ⟨_, rfl, ?_⟩
  show Q (.ref h₅.objs.size) _
  rw [hsz]
  exact hQ h₈ _ x y hx hy hz₈ (up _ _ F.TOz hTO₅) (f1 h1₅ fun o e => up _ o F.i1z e) (f2 h2₅ fun o e => up _ o F.i2z e) hT₈ hz8 fun c o c1 c2 c3 c4 e => up c o c1 (hk₅ c o c1 c2 c3 c4 e)

/-- the end: the first text is through -/
theorem zipD_end {a b : Value} {Q : PySem.Fin → Shared → Prop} (F : ZipFar z TI TO i1 i2) (D1 : Draws prog w A i1 [i1] n P1 St1)
    (hz : IsZip s.heap z TI TO .none) (hTI : IsPair s.heap TI (.ref i1) (.ref i2)) (hTO : IsPair s.heap TO a b) (h1 : St1 n s.heap)
    (hE : ∀ h' e, (∀ c o, c ≠ z → c ≠ TO → c ≠ i1 → c ≠ i2 → s.heap.get? c = some o → h'.get? c = some o) → (∃ o, h'.get? e = some o ∧ o.cls = .type "StopIteration") → E (.ref e) { s with heap := h' }) :
    wpAny (model prog w) A (Builtin.«zip.__next__» ⟨[.ref z], []⟩) Q E s := by
  show wpAny _ _ (field (.ref z) 2 >>= _) _ _ _
  refine wpAny_bind (wpAny_field hz rfl (x := .bool false) rfl ?_)
  show wpAny _ _ (field (.ref z) 3 >>= _) _ _ _
  refine wpAny_bind (wpAny_field hz rfl (x := .ref TI) rfl ?_)
  refine wpAny_bind (wpAny_seqItems hTI rfl ?_)
  show wpAny _ _ (Builtin.SmallTypes.ownedTupleIsFree (.ref z) >>= _) _ _ _
  refine wpAny_bind ?_
  unfold Builtin.SmallTypes.ownedTupleIsFree
  refine wpAny_bind (wpAny_field hz rfl (x := .none) rfl (wpAny_pure ?_))
  simp only [if_true]
  refine wpAny_bind (wpAny_rule ?_)
  refine wpAny_bind (wpAny_field hz rfl (x := .ref TO) rfl ?_)
  refine wpAny_bind (wpAny_setField_rec hz (by simp) fun h₁ hz₁ hs₁ => ?_)
  replace hz₁ : IsZip h₁ z TI TO .ellipsis := hz₁
  refine wpAny_bind ?_
  simp only [List.zipIdx_cons, List.zipIdx_nil, List.forIn_cons, List.forIn_nil]
  refine wpAny_bind (wpAny_bind (wpAny_onRaise ?_))
  show wpAny _ _ (Builtin.SmallTypes.nextOf (.ref i1) >>= _) _ _ _
  have h1' : St1 n h₁ := D1.frame _ _ _ h1 fun b hb o e => by
    have hb := List.mem_singleton.mp hb
    subst hb; exact hs₁.extBut _ o F.i1z e
  refine wpAny_bind (D1.done _ _ _ h1' fun h₂ e hs₂ he => ?_)
  obtain ⟨oe, hoe, hce⟩ := he
  have hz₂ : IsZip h₂ z TI TO .ellipsis := hs₂ _ _ F.i1z.symm hz₁
  have hez : e ≠ z := fun x => by subst x; rw [hz₂] at hoe; cases hoe; simp at hce
  exact wpAny_setField_rec hz₂ (by simp) fun h₃ _ hs₃ => hE h₃ e (fun c o c1 _ c3 _ x => hs₃.extBut _ _ c1 (hs₂ _ _ c3 (hs₁.extBut _ _ c1 x))) ⟨oe, hs₃.extBut _ _ hez hoe, hce⟩

theorem walksZip (F : ZipFar z TI TO i1 i2) (D1 : Draws prog w A.in1 i1 [i1] n P1 St1) (D2 : Draws prog w A.in1 i2 [i2] n2 P2 St2) (hn : n ≤ n2) :
    WalksT prog w A z [z, TI, TO, i1, i2] [z, TO, i1, i2] n (fun i vals => ∃ x y, P1 i x ∧ P2 i y ∧ vals = #[x, y])
      (fun i h => IsZip h z TI TO .none ∧ IsPair h TI (.ref i1) (.ref i2) ∧ (∃ a b, IsPair h TO a b) ∧ St1 i h ∧ St2 i h)
      (fun i T h => IsZip h z TI TO (rawInt T) ∧ IsPair h TI (.ref i1) (.ref i2) ∧ (∃ a b, IsPair h TO a b) ∧ St1 (i + 1) h ∧ St2 (i + 1) h ∧ T ≠ z ∧ T ≠ TO ∧ T ≠ i1 ∧ T ≠ i2) where
  sub := fun c hc => by simp at hc ⊢; rcases hc with rfl | rfl | rfl | rfl <;> simp
  frame := fun i h h' hst hk => by
    obtain ⟨hz, hTI, ⟨a, b, hTO⟩, h1, h2⟩ := hst
    exact ⟨hk z (by simp) _ hz, hk TI (by simp) _ hTI, ⟨a, b, hk TO (by simp) _ hTO⟩, D1.frame _ _ _ h1 fun c hc o e => hk c (by simp at hc; simp [hc]) o e, D2.frame _ _ _ h2 fun c hc o e => hk c (by simp at hc; simp [hc]) o e⟩
  item := fun i s Q E hi hst hQ => by
    obtain ⟨hz, hTI, ⟨a, b, hTO⟩, h1, h2⟩ := hst
    have hT : s.TypeIs (.ref z) "zip" := ⟨_, hz, rfl⟩
    have lt : ∀ {c o}, s.heap.get? c = some o → s.heap.objs.size ≠ c := fun e => Nat.ne_of_gt (Heap.lt_size e)
    obtain ⟨o1, ho1⟩ := D1.live _ _ h1
    obtain ⟨o2, ho2⟩ := D2.live _ _ h2
    unfold pyNext
    refine wpAny_bind (wpAny_attempt (wpAny_callSpecial?_slot (name := PySem.Str.ofString "__next__") hT PySem.F.slot_zip_next (wpAny_call_entry PySem.F.slot_zip_next hT PySem.F.entry_zip_next
      (zipD_item F D1 D2 hz hTI hTO h1 h2 hi (Nat.lt_of_lt_of_le hi hn) fun h' tk x y hx hy a1 a2 a3 a4 a5 a6 hk => wpAny_pure ?_) (PySem.F.args_zip_next_1 _))))
    exact hQ s.heap.objs.size #[x, y] h' tk ⟨x, y, hx, hy, rfl⟩ (Nat.le_refl _) ⟨_, a5, rfl, _, rfl⟩
      ⟨a1, hk _ _ F.TIz F.TITO F.TIi1 F.TIi2 hTI, ⟨_, _, a2⟩, a3, a4, lt hz, lt hTO, lt ho1, lt ho2⟩
      fun c o hc e => hk c o (fun x => hc (by simp [x])) (fun x => hc (by simp [x])) (fun x => hc (by simp [x])) (fun x => hc (by simp [x])) e
  go := fun elts k pos i T s Q E hm hQ => by
    obtain ⟨hz, hTI, ⟨a, b, hTO⟩, h1, h2, _⟩ := hm
    refine wpAny_letOwnedTupleGo_zip hz fun h' hz' hs' => hQ h' ⟨hz', hs'.extBut _ _ F.TIz hTI, ⟨a, b, hs'.extBut _ _ F.TOz hTO⟩, ?_, ?_⟩ fun c o hc e => hs'.extBut _ _ (fun x => hc (by simp [x])) e
    · exact D1.frame _ _ _ h1 fun c hc o e => hs'.extBut _ _ (by simp at hc; subst hc; exact F.i1z) e
    · exact D2.frame _ _ _ h2 fun c hc o e => hs'.extBut _ _ (by simp at hc; subst hc; exact F.i2z) e
  apart := fun i T h hm hT => by
    obtain ⟨_, _, _, _, _, t1, t2, t3, t4⟩ := hm
    simp at hT
    rcases hT with rfl | rfl | rfl | rfl
    · exact t1 rfl
    · exact t2 rfl
    · exact t3 rfl
    · exact t4 rfl
  done := fun s Q E hst hQ => by
    obtain ⟨hz, hTI, ⟨a, b, hTO⟩, h1, h2⟩ := hst
    have hT : s.TypeIs (.ref z) "zip" := ⟨_, hz, rfl⟩
    unfold pyNext
    refine wpAny_bind (wpAny_attempt (wpAny_callSpecial?_slot (name := PySem.Str.ofString "__next__") hT PySem.F.slot_zip_next (wpAny_call_entry PySem.F.slot_zip_next hT PySem.F.entry_zip_next
      (zipD_end F D1 hz hTI hTO h1 fun h' e hk he => ?_) (PySem.F.args_zip_next_1 _))))
    obtain ⟨o, ho, hc⟩ := he
    refine wpAny_bind (wpAny_isInstance (T := "StopIteration") (b := true) ⟨o, ho, hc⟩ isSubtype_stop ?_)
    exact wpAny_pure (hQ h' s.toks fun c o hc e => hk c o (fun x => hc (by simp [x])) (fun x => hc (by simp [x])) (fun x => hc (by simp [x])) (fun x => hc (by simp [x])) e)
  self := fun i s Q E hst hQ => wpAny_pyIter_zip hst.1 hQ
end
end Mine
end

section
open PySem PySem.Builtin PySem.Builtin.Str PySem.W PyProof.Rows
namespace Mine

/-- the rows of a text from here on: cur is the row begun, b: the sign ahead was a carriage return -/
def rowsC : Bool → List Nat → List Nat → List (List Nat)
  | _, cur, [] => [cur]
  | b, cur, c :: r => if c = 13 then cur :: rowsC true [] r else if c = 10 then (if b then rowsC false cur r else cur :: rowsC false [] r) else rowsC false (cur ++ [c]) r
def rowsL (l : List Nat) : List (List Nat) := rowsC false [] l

section
variable {prog : Program} {w : World} {A : Around} {E : Value → Shared → Prop} {s : Shared} {mg mb : Str → Option Value} {env : Env}

theorem Obj.mapSeq_plain (its : Array Value) (n : Nat) (f : Array Value → Array Value) : ∃ n', Obj.mapSeq f { cls := .type "list", data := .seq its n } = { cls := .type "list", data := .seq (f its) n' } := ⟨_, rfl⟩

theorem setItem_last {l : Addr} {items : Array Value} {t : Tok} {v : Value} {Q : Unit → Shared → Prop} (hl : s.heap.PlainList l items) (hn : 0 < items.size) (hfit : items.size ≤ 1000000)
    (hQ : ∀ h', h'.PlainList l (items.setIfInBounds (items.size - 1) v) → Heap.SameBut l s.heap h' → Q () { s with heap := h' }) :
    wpAny (model prog w) A (setItem (.ref l) (.int (-1) t) v) Q E s := by
  have hT := hl.isList.typeIs
  obtain ⟨n, ho⟩ := id hl
  unfold setItem
  try with_reducible refine wpAny_holding ?_
  first | refine wpAny_bind (wpAny_pure ?_) | skip
  refine wpAny_bind (wpAny_sequenceKey hT (by decide) ?_)
  refine wpAny_bind (wpAny_callSpecial?_slot (name := PySem.Str.ofString "__setitem__") hT slot_list_setitem
    (wpAny_call_entry slot_list_setitem hT entry_list_setitem ?_ (args_list_setitem _ _ _)))
  show wpAny _ _ (Builtin.List.listSubscript? (.int (-1) t) >>= _) _ _ s
  refine wpAny_bind (wpAny_listSubscript_int (by decide) ?_)
  have hidx : seqIndex? (-1) items.size = some (items.size - 1) := by
    rw [StrLaws.seqIndex_neg (by omega) (by omega)]; congr 1; omega
  show wpAny _ _ ((Builtin.List.listItems (.ref l) >>= fun xs => pure ((seqIndex? (-1) xs.size).bind fun i => xs[i]?.map (i, ·))) >>= _) _ _ s
  refine wpAny_bind (wpAny_bind ?_)
  show wpAny _ _ (seqItems? (.ref l) >>= _) _ _ s
  refine wpAny_bind (wpAny_seqItems ho rfl (wpAny_pure (wpAny_pure ?_)))
  rw [hidx]
  simp only [Option.bind_some, Array.getElem?_eq_getElem (show items.size - 1 < items.size by omega), Option.map_some]
  show wpAny _ _ (setSeqItemAt l (items.size - 1) v >>= _) _ _ s
  refine wpAny_bind (wpAny_setSeqItemAt ho rfl ?_)
  obtain ⟨n', e⟩ := Obj.mapSeq_plain items n (·.setIfInBounds (items.size - 1) v)
  have fin : (s.heap.update l (PySem.Obj.mapSeq (·.setIfInBounds (items.size - 1) v))).PlainList l (items.setIfInBounds (items.size - 1) v) := ⟨n', by
    rw [Heap.get?_update_self _ ho (by rw [e]; rfl), e]⟩
  first
    | exact wpAny_bind (wpAny_pure (wpAny_pure ⟨.none, rfl, wpAny_pure (hQ _ fin (Heap.SameBut.update ..))⟩))
    | exact wpAny_pure ⟨.none, rfl, wpAny_pure (hQ _ fin (Heap.SameBut.update ..))⟩

theorem getItem_last {D : Addr} {items : Array Value} {t : Tok} {x : Value} {value slice : Expr} {Q : Value → Shared → Prop} (hl : s.heap.IsList D items) (hn : 0 < items.size) (hfit : items.size ≤ 1000000) (hx : items[items.size - 1]? = some x) (h : Q x s)
    (hs : subscripted slice false (.ref D) (.int (-1) t) = operate [.ref D, .int (-1) t] (getItem (.ref D) (.int (-1) t)) := by with_unfolding_all rfl) (ht : ∀ r, letTemporaryGo value (.ref D) r = pure () := by intro _; with_unfolding_all rfl) :
    wpAny (model prog w) A (subscriptTail value slice (.ref D) (.int (-1) t)) Q E s :=
  subscriptTail_builtin hl.typeIs list_getitem_lookup (wpAny_getItem_list_neg hl (by omega) (by omega) (by decide) (by rw [show ((-1 : Int) + items.size).toNat = items.size - 1 by omega]; exact hx) h) hs ht

theorem rowSet (l : List (Str × Tok)) (y : Str) (u : Tok) (p : Str × Tok) : ((strValues (l ++ [p])).toArray).setIfInBounds ((strValues (l ++ [p])).toArray.size - 1) (.str y u) = (strValues (l ++ [(y, u)])).toArray := by
  apply Array.ext'
  simp [strValues]
theorem rowPush (l : List (Str × Tok)) (y : Str) (u : Tok) : ((strValues l).toArray).push (.str y u) = (strValues (l ++ [(y, u)])).toArray := by simp [strValues]

theorem cr_codes : (("\r" : Str)).cps.toList = [13] := by decide +kernel
theorem lf_codes : (("\n" : Str)).cps.toList = [10] := by decide +kernel
theorem one_eq {c d : Nat} {y : Str} (h : y.cps.toList = [d]) : ((⟨#[c]⟩ : Str) == y) = (c == d) := by rw [← toList_beq, h]; simp
theorem one_ne {c d : Nat} {y : Str} (h : y.cps.toList = [d]) : ((⟨#[c]⟩ : Str) != y) = (c != d) := by rw [← toList_bne, h]; simp [bne]

/-- the state between two turns of the loop of _law_rows -/
structure RowsAt (l : List Nat) (D L : Addr) (i : Nat) (h : Heap) (m : Str → Option Value) (old : List (Str × Tok)) (last : Str × Tok) : Prop where
  ns : h.Ns L m
  rows : m "rows" = some (.ref D)
  list : h.PlainList D (strValues (old ++ [last])).toArray
  val : (old.map (·.1.cps.toList)) ++ rowsC (i != 0 && l.getD (i - 1) 0 == 13) last.1.cps.toList (l.drop i) = rowsL l
  few : old.length + 1 ≤ i + 1 ∧ last.1.length ≤ i

end
end Mine
end

section
open PySem PySem.Builtin PySem.Builtin.Str PySem.W PyProof.Rows
namespace Mine

section
variable {prog : Program} {w : World} {A : Around} {E : Value → Shared → Prop} {s : Shared} {mg mb : Str → Option Value} {Q : Value → Shared → Prop}

/-- what one turn makes of the rows -/
inductive RowStep (c d : Nat) (old : List (Str × Tok)) (last : Str × Tok) : List (Str × Tok) → Str × Tok → Prop
  | cut (u : Tok) : (c = 13 ∨ c = 10 ∧ d ≠ 13) → RowStep c d old last (old ++ [last]) ("", u)
  | add (u : Tok) : c ≠ 13 → c ≠ 10 → RowStep c d old last old (last.1 ++ ⟨#[c]⟩, u)
  | skip : c = 10 → d = 13 → RowStep c d old last old last

theorem RowsAt.next {l : List Nat} {D L : Addr} {i c d : Nat} {h h' : Heap} {m m' : Str → Option Value} {old old' : List (Str × Tok)} {last last' : Str × Tok} (R : RowsAt l D L i h m old last) (hc : l[i]? = some c) (hd : d = if i = 0 then 32 else l.getD (i - 1) 0)
    (st : RowStep c d old last old' last') (ns : h'.Ns L m') (rows : m' "rows" = some (.ref D)) (list : h'.PlainList D (strValues (old' ++ [last'])).toArray) : RowsAt l D L (i + 1) h' m' old' last' := by
  obtain ⟨hlt, rfl⟩ := List.getElem?_eq_some_iff.mp hc
  have hb : (i + 1 != 0 && l.getD (i + 1 - 1) 0 == 13) = (l[i] == 13) := by
    rw [show i + 1 - 1 = i by omega, List.getD_eq_getElem?_getD, hc]; simp
  have hbd : (i != 0 && l.getD (i - 1) 0 == 13) = (d == 13) := by
    subst hd
    by_cases h0 : i = 0
    · simp [h0]
    · simp [h0]
  have hv := R.val
  have hf := R.few
  rw [List.drop_eq_getElem_cons hlt, rowsC, hbd] at hv
  refine ⟨ns, rows, list, ?_, ?_⟩
  · rw [hb]
    cases st with
    | cut u h1 =>
      rw [List.map_append, List.append_assoc]
      rw [show (("" : Str), u).1.cps.toList = [] from nil_codes]
      rcases h1 with h1 | ⟨h1, h2⟩
      · rw [if_pos h1] at hv
        rw [h1]; exact hv
      · rw [if_neg (by omega), if_pos h1, if_neg (by simpa using h2)] at hv
        rw [h1]; exact hv
    | add u h1 h2 =>
      rw [if_neg h1, if_neg h2] at hv
      rw [show (l[i] == 13) = false by simpa using h1]
      have e : (last.1 ++ (⟨#[l[i]]⟩ : Str), u).1.cps.toList = last.1.cps.toList ++ [l[i]] := by simp [Str.cps_append]
      rw [e]; exact hv
    | skip h1 h2 =>
      rw [if_neg (by omega), if_pos h1, if_pos (by simpa using h2)] at hv
      rw [show (l[i] == 13) = false by rw [h1]; rfl]
      exact hv
  · cases st with
    | cut u h1 => exact ⟨by simp; omega, by show ("" : Str).length ≤ _; rw [nil_len]; omega⟩
    | add u h1 h2 =>
      refine ⟨by omega, ?_⟩
      show (last.1 ++ (⟨#[l[i]]⟩ : Str)).length ≤ _
      rw [Str.length_append]
      show last.1.length + 1 ≤ _
      omega
    | skip h1 h2 => exact ⟨by omega, by omega⟩

/-- the loop's turn -/
theorem rows_turn {pm : Value} {L D : Addr} {m : Str → Option Value} {c d : Nat} {u v : Tok} {old : List (Str × Tok)} {last : Str × Tok} {p1 p2 : Expr} {p3 : Pos} {body : List Stmt} (hb : (bodyOf (topAt 10)).getD 1 (.Pass p3) = .For p1 p2 body [] p3)
    (hn : s.heap.Ns L m) (hs : m "sign" = some (.str ⟨#[c]⟩ u)) (ha : m "ahead" = some (.str ⟨#[d]⟩ v)) (hr : m "rows" = some (.ref D)) (hl : s.heap.PlainList D (strValues (old ++ [last])).toArray) (hDL : D ≠ L)
    (hf : old.length ≤ 1000 ∧ last.1.length ≤ 1000) {Q : Flow → Shared → Prop}
    (h : ∀ h' tk old' last', RowStep c d old last old' last' → h'.PlainList D (strValues (old' ++ [last'])).toArray → (∀ b o, b ≠ D → s.heap.get? b = some o → h'.get? b = some o) → Q .next { s with heap := h', toks := tk }) :
    wpAny (model prog w) A (execs body (callEnv (mkFd 10 "_law_rows" .none 69 pm) L 70)) Q E s := by
  injection hb with e1 e2 e3 e4 e5
  subst e3
  clear e1 e2 e4 e5
  have hsz : (strValues (old ++ [last])).toArray.size = old.length + 1 := by simp [strValues]
  refine wpAny_execs_cons (wpAny_If (wpAny_mono (Q := fun b s' => b = (c == 13 || c == 10 && d != 13) ∧ ∃ tk, s' = { s with toks := tk }) ?test (fun b s' hb => ?rest) fun _ _ x => x))
  case test =>
    refine isTrue_or (wpAny_isTrue_Compare1 (nameL hn hs (Calls.Constant_str (eq_str (wpAny_truthy_bool ?_)))))
    rw [one_eq cr_codes]
    by_cases h1 : c = 13
    · rw [if_pos (by simpa using h1)]
      exact ⟨by simp [h1], _, rfl⟩
    · rw [if_neg (by simpa using h1)]
      refine isTrue_or (isTrue_and (wpAny_isTrue_Compare1 (nameL (s := { s with toks := s.toks + 1 }) hn hs (Calls.Constant_str (eq_str (wpAny_truthy_bool ?_))))))
      rw [one_eq lf_codes]
      by_cases h2 : c = 10
      · rw [if_pos (by simpa using h2)]
        refine isTrue_and (wpAny_isTrue_Compare1 (nameL (s := { s with toks := s.toks + 1 + 1 }) hn ha (Calls.Constant_str (ne_str (wpAny_truthy_bool ?_)))))
        rw [one_ne cr_codes]
        by_cases h3 : d = 13
        · rw [if_neg (by simpa using h3), if_neg (by simp)]
          exact isTrue_or_nil ⟨by simp [h2, h3], _, rfl⟩
        · rw [if_pos (by simpa using h3)]
          refine isTrue_and_nil ?_
          rw [if_pos rfl]
          exact ⟨by simp [h2, h3], _, rfl⟩
      · rw [if_neg (by simpa using h2), if_neg (by simp)]
        exact isTrue_or_nil ⟨by simp [h1, h2], _, rfl⟩
  obtain ⟨rfl, tk, rfl⟩ := hb
  by_cases hc : (c == 13 || c == 10 && d != 13) = true
  · rw [if_pos hc]
    refine wpAny_execs_cons (wpAny_Expr ?_)
    refine wpAny_Call_method rfl rfl rfl F.plainAttrs_list slot_list_append type_list_append (nameL (s := { s with toks := tk }) hn hr ⟨hl.isList.typeIs, ?_, ?_⟩)
    · intro a e; cases e; obtain ⟨n, e⟩ := hl; exact ⟨_, e, rfl⟩
    · refine cwB1 (Calls.Constant_str ?_)
      refine wpAny_list_append_plain (s := { s with toks := tk + 1 }) hl (fun h' hl' hs' => wpAny_execs_nil (wpAny_execs_nil ?_)) (by rw [sizeLine_eq, hsz]; omega)
      rw [rowPush] at hl'
      exact h h' _ _ _ (.cut _ (by simpa using hc)) hl' fun b o hb e => hs'.extBut b o hb e
  · rw [if_neg hc]
    refine wpAny_execs_cons (wpAny_If (wpAny_isTrue_Compare1 (nameL (s := { s with toks := tk }) hn hs (Calls.Constant_str (ne_str (wpAny_truthy_bool ?_))))))
    rw [one_ne lf_codes]
    by_cases h2 : c = 10
    · rw [if_neg (by simpa using h2)]
      refine wpAny_execs_nil (wpAny_execs_nil (wpAny_execs_nil ?_))
      exact h s.heap _ _ _ (.skip h2 (by simp [h2] at hc; exact hc)) hl fun _ _ _ e => e
    · rw [if_pos (by simpa using h2)]
      have h13 : c ≠ 13 := by intro e; simp [e] at hc
      have e1 : (-1 : Int) = -(1 : Int) := rfl
      refine wpAny_execs_cons (wpAny_Assign_Subscript (wpAny_BinOp (Subscript_ (nameL (s := { s with toks := tk + 1 }) hn hr (wpAny_UnaryOp (wpAny_Constant_int (P.neg_int ?_)))))))
      refine getItem_last (s := { s with toks := tk + 1 + 1 + 1 }) (x := .str last.1 last.2) hl.isList (by rw [hsz]; omega) (by rw [hsz]; omega) (by simp [strValues]) ?_
      refine nameL (s := { s with toks := tk + 1 + 1 + 1 }) hn hs (add_str (fun t' tk' => ?_) (by rw [sizeLine_eq]; show last.1.length + 1 ≤ _; omega))
      refine nameL (s := { s with toks := tk' }) hn hr (wpAny_UnaryOp (wpAny_Constant_int (P.neg_int ?_)))
      refine setItem_last (s := { s with toks := tk' + 1 + 1 }) hl (by rw [hsz]; omega) (by rw [hsz]; omega) fun h' hl' hs' => wpAny_execs_nil (wpAny_execs_nil (wpAny_execs_nil ?_))
      rw [rowSet] at hl'
      exact h h' _ _ _ (.add _ h13 h2) hl' fun b o hb e => hs'.extBut b o hb e
end
end Mine
end

section
open PySem PySem.Builtin PySem.Builtin.Str PySem.W PyProof.Rows
namespace Mine

section
variable {prog : Program} {w : World} {A : Around} {E : Value → Shared → Prop} {s : Shared} {mg mb : Str → Option Value} {Q : Value → Shared → Prop}

theorem ahead_code {x : Str} {i : Nat} {d : Nat} (h : ((" " : Str) ++ x).cps[i]? = some d) : d = if i = 0 then 32 else x.cps.toList.getD (i - 1) 0 := by
  have e : ((" " : Str) ++ x).cps.toList = 32 :: x.cps.toList := by rw [Str.cps_append, Array.toList_append, blank_eq]; rfl
  have h' : (((" " : Str) ++ x).cps.toList)[i]? = some d := by simpa using h
  rw [e] at h'
  cases i with
  | zero => simp at h'; simp [h']
  | succ i => rw [if_neg (by omega), show i + 1 - 1 = i by omega, List.getD_eq_getElem?_getD]; simp at h' ⊢; rw [h']; rfl

theorem list1 {M : Model} {env : Env} {e : Expr} {pos : Pos} (h : wpAny M A (eval e env) (fun v s₁ => Q (.ref s₁.heap.objs.size) { s₁ with heap := s₁.heap.push { cls := .type "list", data := .seq #[v] } }) E s)
    (he : backTo pos (starEach [e] env) = [(false, eval e env)] := by rfl) : wpAny M A (eval (.List [e] pos) env) Q E s := by
  refine wpAny_List ?_
  rw [he]
  exact Calls.spliced_cons (wpAny_mono h (fun v s₁ h₁ => Calls.spliced_nil ⟨by show (1 : Nat) ≤ sizeLine; rw [sizeLine_eq]; decide, h₁⟩) fun _ _ x => x)

theorem notIn4 {b B : Nat} (h : b < B) : b ∉ [B + 4, B + 3, B, B + 1] := by intro hm; simp at hm; omega

set_option maxHeartbeats 1000000 in
theorem call_rows {x : Str} {t : Tok} (W : Wd mg mb s.heap) (hA : A.depth ≤ 400) (hh : A.handled = none) (hx : x.cps.size ≤ 400)
    (h : ∀ D l s', l.map (·.1) = (rowsL x.cps.toList).map S → Keeps s s' → s'.heap.IsList D (strValues l).toArray → Q (.ref D) s') : wpAny (model prog w) A (call (.ref 70) [.str x t]) Q E s := by
  refine enter (binds := [("text", .str x t)]) W W.frows (by omega) (fun pm => .of_eq rfl) (by decide) (PyProof.Rows.locs rfl) fun pm L s₁ hns hL k => ?_
  have W1 := W.keeps (kAll k)
  have hL1 : L < s₁.heap.objs.size := hns.lt
  refine wpAny_execs_cons (wpAny_Assign_Name (list1 (constS fun s₂ t₂ k₂ => ?_)))
  generalize hH : s₂.heap.push { cls := .type "list", data := .seq #[Value.str "" t₂] } = H2
  have old2 : ∀ b o, s₁.heap.get? b = some o → H2.get? b = some o := fun b o e => hH ▸ Heap.get?_push_of_some _ (kGet k₂ e)
  have hD2 : H2.PlainList s₂.heap.objs.size (strValues ([] ++ [(("" : Str), t₂)])).toArray := ⟨_, hH ▸ Heap.get?_push_size _ rfl⟩
  have hLD : L ≠ s₂.heap.objs.size := Nat.ne_of_lt (hns.keeps (kAll k₂)).lt
  have hDs : s.heap.objs.size ≤ s₂.heap.objs.size := Nat.le_of_lt (Nat.lt_of_le_of_lt hL (hns.keeps (kAll k₂)).lt)
  generalize s₂.heap.objs.size = D at hD2 hLD hDs
  refine wpAny_storeName_local rfl (hns.keeps old2) (fun h₃ hn₃ hs₃ => ?_) rfl
  replace hs₃ : Heap.SameBut L H2 h₃ := hs₃
  have K3 : Keeps s { s₂ with heap := h₃, toks := s₂.toks + 1 } := by
    refine kBut (s₃ := { s₂ with heap := H2 }) ?_ hL fun b o hb e => hs₃.extBut b o hb e
    obtain ⟨h2, tk2, rfl, kk⟩ := kTrans k k₂
    exact ⟨H2, tk2, rfl, fun b o e => old2 b o (kGet k e)⟩
  have hD3 : h₃.PlainList D (strValues ([] ++ [(("" : Str), t₂)])).toArray := hD2.extBut hs₃.extBut (Ne.symm hLD)
  have hs3 : ∃ s₃ : Shared, s₃ = { s₂ with heap := h₃, toks := s₂.toks + 1 } := ⟨_, rfl⟩
  obtain ⟨s₃, e3⟩ := hs3
  have hn₃' : s₃.heap.Ns L (fun z => if z = ("rows" : Str) then some (.ref D) else List.lookup z [(("text" : Str), Value.str x t)].reverse) := by rw [e3]; exact hn₃
  have hD3' : s₃.heap.PlainList D (strValues ([] ++ [(("" : Str), t₂)])).toArray := by rw [e3]; exact hD3
  rw [← e3] at K3 ⊢
  clear hs₃ hD3 hn₃ hD2 old2 hH
  have W3 := W.keeps (kAll K3)
  show wpAny _ _ (execs _ _) _ _ s₃
  refine wpAny_execs_cons (wpAny_For ?_)
  refine callN (nameB W3 W3.zip (cwT2 (nameL hn₃' rfl (wpAny_BinOp (constS fun s₄ t₄ k₄ => nameL (hn₃'.keeps (kAll k₄)) rfl (add_str (fun t₅ tk₅ => ?_) (by rw [sizeLine_eq]; show 1 + x.cps.size ≤ _; omega)))))))
  refine call_zip_strs (s := { s₄ with toks := tk₅ }) fun h₅ hz hTI hTO hi1 hi2 hsz5 hk5 => wpAny_pyIter_zip hz ?_
  dsimp only at hz hTI hTO hi1 hi2 hsz5 hk5
  have hLB : L < s₄.heap.objs.size := (hn₃'.keeps (kAll k₄)).lt
  have hDB : D < s₄.heap.objs.size := by obtain ⟨n, e⟩ := hD3'; exact Heap.lt_size (kGet k₄ e)
  have K5 : ∀ b o, s.heap.get? b = some o → h₅.get? b = some o := fun b o e => hk5 b o (kGet k₄ (kGet K3 e))
  have hn5 := (hn₃'.keeps (kAll k₄)).keeps hk5
  have hD5 : h₅.PlainList D (strValues ([] ++ [(("" : Str), t₂)])).toArray := hD3'.at fun o e => hk5 _ _ (kGet k₄ e)
  generalize s₄.heap.objs.size = B at hz hTI hTO hi1 hi2 hsz5 hLB hDB
  have ZF : ZipFar (B + 4) (B + 2) (B + 3) B (B + 1) := ⟨neN (by omega), neN (by omega), neN (by omega), neN (by omega), neN (by omega), neN (by omega), neN (by omega), neN (by omega), neN (by omega), neN (by omega)⟩
  have hyl : ((" " : Str) ++ x).cps.size = x.cps.size + 1 := by
    have := Str.length_append (" " : Str) x
    have e : (" " : Str).length = 1 := by rw [blank_eq]; rfl
    rw [e] at this
    show ((" " : Str) ++ x).length = _
    rw [this]; show 1 + x.cps.size = _; omega
  have WZ := walksZip (A := A.deeper (callEnv (mkFd 10 "_law_rows" .none 69 pm) L 70)) ZF (drawsU (prog := prog) (w := w) (A := (A.deeper (callEnv (mkFd 10 "_law_rows" .none 69 pm) L 70)).in1) hh B x t)
    (drawsU (A := (A.deeper (callEnv (mkFd 10 "_law_rows" .none 69 pm) L 70)).in1) hh (B + 1) ((" " : Str) ++ x) t₅) (by omega)
  have hLf : L ∉ [B + 4, B + 2, B + 3, B, B + 1] := by
    intro hm; simp at hm; omega
  have hDf : D ∉ [B + 4, B + 2, B + 3, B, B + 1] := by
    intro hm; simp at hm; omega
  have oldW : ∀ b o, s.heap.get? b = some o → b ∉ [B + 4, B + 3, B, B + 1] ∧ b ≠ L ∧ b ≠ D := fun b o e => by
    have hb := Heap.lt_size e
    have hb1 : b < L := Nat.lt_of_lt_of_le hb hL
    have hb2 : b < D := Nat.lt_of_lt_of_le hb hDs
    exact ⟨notIn4 (Nat.lt_trans hb1 hLB), Nat.ne_of_lt hb1, Nat.ne_of_lt hb2⟩
  have hLw : L ∉ [B + 4, B + 3, B, B + 1] := fun hm => hLf (WZ.sub _ hm)
  have hDw : D ∉ [B + 4, B + 3, B, B + 1] := fun hm => hDf (WZ.sub _ hm)
  refine codeAny_forLoop_any
    (fun k s' => ∃ h' tk m' i old last, s' = { s₄ with heap := h', toks := tk } ∧ (IsZip h' (B + 4) (B + 2) (B + 3) .none ∧ IsPair h' (B + 2) (.ref B) (.ref (B + 1)) ∧ (∃ a b, IsPair h' (B + 3) a b) ∧ h'.IsStrIter B (strIterType x) x t i ∧ h'.IsStrIter (B + 1) (strIterType ((" " : Str) ++ x)) ((" " : Str) ++ x) t₅ i) ∧
      RowsAt x.cps.toList D L i h' m' old last ∧ i ≤ x.cps.size ∧ k = x.cps.size + 1 - i ∧ ∀ b o, s.heap.get? b = some o → h'.get? b = some o) ?_ (x.cps.size + 1)
    ⟨h₅, tk₅, _, 0, [], (("" : Str), t₂), rfl, ⟨hz, hTI, ⟨_, _, hTO⟩, hi1, hi2⟩, ⟨hn5, rfl, hD5, ?_, by simp, by rw [nil_len]; omega⟩, Nat.zero_le _, rfl, K5⟩
  rotate_left
  · show [] ++ rowsC _ ("" : Str).cps.toList _ = _
    rw [nil_codes]; rfl
  rintro k s' ⟨H, tk, m', i, old, last, rfl, hst', R, hi, rfl, hk⟩
  by_cases hlt : i < x.cps.size
  · refine WZ.item i _ _ _ hlt hst' fun T vals h₁ tk₁ hPt _ hT hMid hk₁ => ?_
    obtain ⟨v0, v1, ⟨c, u, hc, rfl⟩, ⟨d, v, hd, rfl⟩, rfl⟩ := hPt
    refine WZ.go _ _ _ i T _ _ _ hMid fun h₂ hst₂ hk₂ => ?_
    have ht₂ : h₂.IsTuple T #[.str ⟨#[c]⟩ u, .str ⟨#[d]⟩ v] := hT.at fun o e => hk₂ T o (WZ.apart i T h₁ hMid) e
    refine wpAny_assign_Tuple hh ht₂ rfl rfl fun h₃ hx₃ => ?_
    replace hx₃ : Heap.ExtBut h₂.objs.size h₂ h₃ := hx₃
    have up₃ : ∀ b o, h₂.get? b = some o → h₃.get? b = some o := fun b o x => hx₃ b o (Nat.ne_of_lt (Heap.lt_size x)) x
    have H3 : ∀ b o, b ∉ [B + 4, B + 3, B, B + 1] → H.get? b = some o → h₃.get? b = some o := fun b o hb x => up₃ b o (hk₂ b o hb (hk₁ b o hb x))
    have hn₃ : h₃.Ns L m' := R.ns.at' fun o e => H3 _ o hLw e
    show wpAny _ _ (do holding [.str ⟨#[d]⟩ v] (assign (.Name "sign" _) _ (.str ⟨#[c]⟩ u)); do holding [] (assign (.Name "ahead" _) _ (.str ⟨#[d]⟩ v)); pure ()) _ _ _
    refine wpAny_bind (wpAny_holding (wpAny_assign_Name (wpAny_storeName_local rfl hn₃ (fun h₄ hn₄ hs₄ => ?_) rfl)))
    replace hs₄ : Heap.SameBut L h₃ h₄ := hs₄
    refine wpAny_bind (wpAny_holding (wpAny_assign_Name (wpAny_storeName_local rfl hn₄ (fun h₅ hn₅ hs₅ => wpAny_pure ?_) rfl)))
    replace hs₅ : Heap.SameBut L h₄ h₅ := hs₅
    have hD₅ : h₅.PlainList D (strValues (old ++ [last])).toArray := ((R.list.at fun o e => H3 _ o hDw e).extBut hs₄.extBut (Ne.symm hLD)).extBut hs₅.extBut (Ne.symm hLD)
    refine rows_turn (p1 := _) (p2 := _) (p3 := _) rfl hn₅ (by rfl) (by rfl) (by exact R.rows) hD₅ (Ne.symm hLD) ⟨?_, ?_⟩ fun h₆ tk₆ old' last' st hl₆ hk₆ => ?_
    · have := R.few; omega
    · have := R.few; omega
    refine ⟨x.cps.size + 1 - (i + 1), by omega, h₆, tk₆, _, i + 1, old', last', rfl, ?_, R.next (by simpa using hc) (ahead_code hd) st (hn₅.at' fun o e => hk₆ L o hLD e) (by exact R.rows) hl₆, by omega, rfl, ?_⟩
    · refine WZ.frame _ _ _ hst₂ fun b hb o e => hk₆ b o (fun q => hDf (q ▸ hb)) (hs₅.extBut b o (fun q => hLf (q ▸ hb)) (hs₄.extBut b o (fun q => hLf (q ▸ hb)) (up₃ b o e)))
    · intro b o e
      obtain ⟨q1, q2, q3⟩ := oldW b o e
      exact hk₆ b o q3 (hs₅.extBut b o q2 (hs₄.extBut b o q2 (H3 b o q1 (hk b o e))))
  · have hin : i = x.cps.size := by omega
    refine WZ.done _ _ _ (hin ▸ hst') fun h₁ tk₁ hk₁ => wpAny_execs_nil ?_
    have hn1 : h₁.Ns L m' := R.ns.at' fun o e => hk₁ _ o hLw e
    refine wpAny_execs_cons (wpAny_Return_some (nameL (s := { s₄ with heap := h₁, toks := tk₁ }) hn1 R.rows ?_))
    refine h D (old ++ [last]) _ ?_ ?_ ((R.list.at fun o e => hk₁ _ o hDw e).isList)
    · have hv := R.val
      rw [List.drop_eq_nil_of_le (by simp; omega)] at hv
      rw [← hv]
      show _ = List.map S (_ ++ [_])
      simp [S]
    · obtain ⟨h4, tk4, rfl, kk⟩ := kTrans K3 k₄
      exact ⟨h₁, tk₁, rfl, fun b o e => hk₁ b o (oldW b o e).1 (hk b o e)⟩
end
end Mine
end

section
open PySem PySem.Builtin PySem.Builtin.Str PySem.W PyProof.Rows
namespace Mine

def scN : Scope := ⟨.function, [(".0", .local), ("row", .local), ("word", .local), ("_law_words", .globalImplicit)], false, false, []⟩
def eN (src : Str) (p1 p2 p3 p4 p5 p6 p7 p8 : Pos) : Expr :=
  .ListComp (.Name "word" p1) [⟨.Name "row" p2, .Name src p3, [], 0⟩, ⟨.Name "word" p4, .Call (.Name "_law_words" p5) [.Name "row" p6] [] p7, [], 0⟩] scN p8

section
variable {prog : Program} {w : World} {A : Around} {E : Value → Shared → Prop} {R : Result → Shared → Prop} {s : Shared} {mg mb : Str → Option Value} {env : Env} {src : Str} {p1 p2 p3 p4 p5 p6 p7 p8 : Pos}

theorem turn_in (it acc : Value) (env : Env) : compTurn (eN src p1 p2 p3 p4 p5 p6 p7 p8) 1 it acc env = (standAt p7 >>= fun _ => pyNext it >>= fun r => match r with
      | none => pure (.done .next)
      | some v => letOwnedTupleGo (.Name "word" p4) it v >>= fun _ => assign (.Name "word" p4) env v >>= fun _ =>
        (eval (.Name "word" p1) env >>= fun x => call (.builtin "list.append") [acc, x] >>= fun _ => pure ()) >>= fun _ =>
          again (.compLoop (eN src p1 p2 p3 p4 p5 p6 p7 p8) 1 it acc env)) := by rfl
theorem turn_out (it acc : Value) (env : Env) : compTurn (eN src p1 p2 p3 p4 p5 p6 p7 p8) 0 it acc env = (standAt p3 >>= fun _ => pyNext it >>= fun r => match r with
      | none => pure (.done .next)
      | some v => letOwnedTupleGo (.Name "row" p2) it v >>= fun _ => assign (.Name "row" p2) env v >>= fun _ =>
        (eval (.Call (.Name "_law_words" p5) [.Name "row" p6] [] p7) env >>= fun x => standAt p7 >>= fun _ => foldedSetIterable (.Call (.Name "_law_words" p5) [.Name "row" p6] [] p7) env x >>= fun x =>
          holding [x] (pyIter x) >>= fun it' => runOwn (.compStart (eN src p1 p2 p3 p4 p5 p6 p7 p8) 1 it' acc env) env >>= fun _ =>
          again (.compLoop (eN src p1 p2 p3 p4 p5 p6 p7 p8) 0 it acc env))) := by rfl

theorem start_in {it acc : Value} {env : Env}
    (h0 : codeAny (model prog w) A (.compLoop (eN src p1 p2 p3 p4 p5 p6 p7 p8) 1 it acc env) R s)
    (h : wpAny (model prog w) A (pyIter it) (fun it' s' => codeAny (model prog w) A (.compLoop (eN src p1 p2 p3 p4 p5 p6 p7 p8) 1 it' acc env) R s')
      (notedBy (model prog w) A env fun x s' => R (.error x) s') s) :
    codeAny (model prog w) A (.compStart (eN src p1 p2 p3 p4 p5 p6 p7 p8) 1 it acc env) R s := by
  refine codeAny_of_tree ?_
  show wpAny _ _ ((compStart (eN src p1 p2 p3 p4 p5 p6 p7 p8) 1 it acc env).onRaise (fun x => do noteFrame x env; standAt theWindowsPlace)) _ _ s
  refine wpAny_notedAt ?_
  unfold compStart
  show wpAny _ _ (ask >>= _) _ _ s
  refine wpAny_bind (wpAny_askSetting (wpAny_ite ?_))
  split
  · first
      | exact wpAny_bind (wpAny_pure (wpAny_pure (And.intro rfl h0)))
      | exact wpAny_pure (And.intro rfl h0)
  · refine wpAny_bind (wpAny_rule ?_)
    show wpAny _ _ (standAt p7 >>= _) _ _ s
    exact wpAny_bind (wpAny_standAt (wpAny_bind (wpAny_mono h (fun it' s' h' => wpAny_pure (And.intro rfl h')) fun _ _ x => x)))

theorem loop_in {I ax D C : Addr} {items ys : Array Value} {m : Str → Option Value} (hh : A.handled = none) (hDI : D ≠ I) (hDC : D ≠ C) (hIC : I ≠ C) (haI : ax ≠ I) (haC : ax ≠ C) (haD : ax ≠ D)
    (hit : s.heap.IsListIter I ax 0) (hl : s.heap.IsList ax items) (hacc : s.heap.IsList D ys) (hn : s.heap.Ns C m) (hsz : items.size + ys.size ≤ 1000000)
    (hR : ∀ h' tk m', h'.Ns C m' → h'.IsList D (ys ++ items) → (∀ b o, b ≠ C → b ≠ I → b ≠ D → s.heap.get? b = some o → h'.get? b = some o) → R (.ok .next) { s with heap := h', toks := tk }) :
    codeAny (model prog w) A (.compLoop (eN src p1 p2 p3 p4 p5 p6 p7 p8) 1 (.ref I) (.ref D) (compEnv scN C env)) R s := by
  refine codeAny_loop rfl (fun k s' => ∃ h' tk m' i, s' = { s with heap := h', toks := tk } ∧ h'.IsListIter I ax i ∧ h'.IsList ax items ∧ h'.IsList D (ys ++ (items.toList.take i).toArray) ∧ h'.Ns C m' ∧ i ≤ items.size ∧ k = items.size + 1 - i ∧
      ∀ b o, b ≠ C → b ≠ I → b ≠ D → s.heap.get? b = some o → h'.get? b = some o) ?_ (items.size + 1)
    ⟨s.heap, s.toks, m, 0, rfl, hit, hl, by simpa using hacc, hn, Nat.zero_le _, rfl, fun _ _ _ _ _ e => e⟩
  rintro k s' ⟨H, tk, m', i, rfl, hit', hl', hacc', hn', hi, rfl, hk⟩
  show wpAny _ A ((compTurn (eN src p1 p2 p3 p4 p5 p6 p7 p8) 1 (.ref I) (.ref D) (compEnv scN C env)).onRaise (fun x => do noteFrame x (compEnv scN C env); theTreesLotGoes x)) _ _ _
  refine wpAny_noted ?_
  rw [turn_in]
  refine wpAny_bind (wpAny_standAt (wpAny_bind ?_))
  cases hv : items[i]? with
  | none =>
    have hle : items.size ≤ i := by simpa using hv
    refine wpAny_pyNext_list_end hh hit' hl' hv fun h₁ he₁ => wpAny_pure ?_
    refine hR h₁ tk m' (hn'.extBut he₁ (Ne.symm hIC)) ?_ fun b o hbC hbI hbD e => he₁ b o hbI (hk b o hbC hbI hbD e)
    have := hacc'.extBut he₁ hDI
    rw [List.take_of_length_le (by simpa using hle)] at this
    simpa using this
  | some v =>
    have hlt : i < items.size := (Array.getElem?_eq_some_iff.mp hv).1
    have hvl : items.toList[i]? = some v := by simpa using hv
    refine wpAny_pyNext_list_item hit' hl' hv fun h₁ hit₁ hs₁ => ?_
    refine wpAny_bind (m := letOwnedTupleGo _ _ _) (wpAny_of_eq (a := ()) rfl ?_)
    refine wpAny_bind (wpAny_assign_Name (wpAny_storeName_local (m := m') rfl (hn'.sameBut hs₁ (Ne.symm hIC)) (fun h₂ hn₂ hs₂ => ?_) rfl))
    replace hs₂ : Heap.SameBut C h₁ h₂ := hs₂
    have up₂ : ∀ b o, b ≠ C → b ≠ I → H.get? b = some o → h₂.get? b = some o := fun b o hbC hbI e => hs₂.extBut b o hbC (hs₁.extBut b o hbI e)
    refine wpAny_bind (wpAny_bind (nameL hn₂ (by rfl) ?_))
    have hys : (ys ++ (items.toList.take i).toArray).size ≤ sizeLine := by rw [sizeLine_eq]; simp; omega
    refine wpAny_bind (wpAny_list_append (hsz := hys) (hacc'.at fun o e => up₂ D o hDC hDI e) fun h₃ hl₃ hs₃ => wpAny_pure (wpAny_pure ?_))
    refine ⟨rfl, items.size + 1 - (i + 1), by omega, h₃, _, _, i + 1, rfl, ((hit₁.extBut hs₂.extBut hIC)).extBut hs₃.extBut (Ne.symm hDI), (hl'.at fun o e => up₂ ax o haC haI e).extBut hs₃.extBut haD, ?_, hn₂.sameBut hs₃ (Ne.symm hDC), hlt, rfl,
      fun b o hbC hbI hbD e => hs₃.extBut b o hbD (up₂ b o hbC hbI (hk b o hbC hbI hbD e))⟩
    have e : (ys ++ (items.toList.take i).toArray).push v = ys ++ (items.toList.take (i + 1)).toArray := by
      rw [List.take_add_one, hvl]
      apply Array.ext'
      simp
    rw [e] at hl₃
    exact hl₃
end
end Mine
end

section
open PySem PySem.Builtin PySem.Builtin.Str PySem.W PyProof.Rows
namespace Mine

/-- the great words of a row -/
def rowWords (r : List Nat) : List (List Nat) := (wordsP (· == 32) r).map greatL

theorem wordsP_len (p : Nat → Bool) (l : List Nat) : (wordsP p l).length ≤ l.length + 1 := Nat.le_trans (List.length_filter_le _ _) (splitP_len p l)

section
variable {prog : Program} {w : World} {A : Around} {E : Value → Shared → Prop} {R : Result → Shared → Prop} {s : Shared} {mg mb : Str → Option Value} {env : Env} {src : Str} {p1 p2 p3 p4 p5 p6 p7 p8 : Pos}

theorem strValues_app (a b : List (Str × Tok)) : (strValues a).toArray ++ (strValues b).toArray = (strValues (a ++ b)).toArray := by simp [strValues]

theorem take_words (l : List (Str × Tok)) (i : Nat) (p : Str × Tok) (hp : l[i]? = some p) : ((l.take (i + 1)).map (·.1.cps.toList)).flatMap rowWords = ((l.take i).map (·.1.cps.toList)).flatMap rowWords ++ rowWords p.1.cps.toList := by
  rw [List.take_add_one, hp]; simp

theorem run_in {I ax D C : Addr} {items ys : Array Value} {m : Str → Option Value} (hh : A.handled = none) (hDI : D ≠ I) (hDC : D ≠ C) (hIC : I ≠ C) (haI : ax ≠ I) (haC : ax ≠ C) (haD : ax ≠ D)
    (hit : s.heap.IsListIter I ax 0) (hl : s.heap.IsList ax items) (hacc : s.heap.IsList D ys) (hn : s.heap.Ns C m) (hsz : items.size + ys.size ≤ 1000000)
    (hR : ∀ h' tk m', h'.Ns C m' → h'.IsList D (ys ++ items) → (∀ b o, b ≠ C → b ≠ I → b ≠ D → s.heap.get? b = some o → h'.get? b = some o) → R (.ok .next) { s with heap := h', toks := tk }) :
    codeAny (model prog w) A (.compStart (eN src p1 p2 p3 p4 p5 p6 p7 p8) 1 (.ref I) (.ref D) (compEnv scN C env)) R s :=
  have fin := loop_in hh hDI hDC hIC haI haC haD hit hl hacc hn hsz hR
  start_in fin (wpAny_pyIter_listiter hit fin)

theorem loop_out {I ax D C : Addr} {l : List (Str × Tok)} {m : Str → Option Value} (W : Wd mg mb s.heap) (hA : A.depth ≤ 350) (hh : A.handled = none) (hg : env.globals = mainGlobals) (hDI : D ≠ I) (hDC : D ≠ C) (hIC : I ≠ C) (haI : ax ≠ I) (haC : ax ≠ C) (haD : ax ≠ D)
    (hold : ∀ h', (∀ b o, b ≠ C → b ≠ I → b ≠ D → s.heap.get? b = some o → h'.get? b = some o) → Wd mg mb h')
    (hit : s.heap.IsListIter I ax 0) (hl : s.heap.IsList ax (strValues l).toArray) (hacc : s.heap.IsList D #[]) (hn : s.heap.Ns C m) (hlen : ∀ p ∈ l, p.1.length ≤ 900) (hcnt : l.length ≤ 900)
    (hR : ∀ h' tk m' l', h'.Ns C m' → h'.IsList D (strValues l').toArray → l'.map (·.1) = ((l.map (·.1.cps.toList)).flatMap rowWords).map S →
      (∀ b o, b ≠ C → b ≠ I → b ≠ D → s.heap.get? b = some o → h'.get? b = some o) → R (.ok .next) { s with heap := h', toks := tk }) :
    codeAny (model prog w) A (.compLoop (eN src p1 p2 p3 p4 p5 p6 p7 p8) 0 (.ref I) (.ref D) (compEnv scN C env)) R s := by
  have hsz0 : (strValues l).toArray.size = l.length := by simp [strValues]
  refine codeAny_loop rfl (fun k s' => ∃ h' tk m' i l', s' = { s with heap := h', toks := tk } ∧ h'.IsListIter I ax i ∧ h'.IsList ax (strValues l).toArray ∧ h'.IsList D (strValues l').toArray ∧ l'.map (·.1) = (((l.take i).map (·.1.cps.toList)).flatMap rowWords).map S ∧ l'.length ≤ 901 * i ∧
      h'.Ns C m' ∧ i ≤ l.length ∧ k = l.length + 1 - i ∧ ∀ b o, b ≠ C → b ≠ I → b ≠ D → s.heap.get? b = some o → h'.get? b = some o) ?_ (l.length + 1)
    ⟨s.heap, s.toks, m, 0, [], rfl, hit, hl, hacc, by simp, by simp, hn, Nat.zero_le _, rfl, fun _ _ _ _ _ e => e⟩
  rintro k s' ⟨H, tk, m', i, l', rfl, hit', hl', hacc', hw', hc', hn', hi, rfl, hk⟩
  show wpAny _ A ((compTurn (eN src p1 p2 p3 p4 p5 p6 p7 p8) 0 (.ref I) (.ref D) (compEnv scN C env)).onRaise (fun x => do noteFrame x (compEnv scN C env); theTreesLotGoes x)) _ _ _
  refine wpAny_noted ?_
  rw [turn_out]
  refine wpAny_bind (wpAny_standAt (wpAny_bind ?_))
  cases hv : l[i]? with
  | none =>
    have hle : l.length ≤ i := by simpa using hv
    refine wpAny_pyNext_list_end hh hit' hl' (by simp [strValues, hv]) fun h₁ he₁ => wpAny_pure ?_
    refine hR h₁ tk m' l' (hn'.extBut he₁ (Ne.symm hIC)) (hacc'.extBut he₁ hDI) ?_ fun b o hbC hbI hbD e => he₁ b o hbI (hk b o hbC hbI hbD e)
    rw [List.take_of_length_le hle] at hw'
    exact hw'
  | some p =>
    have hlt : i < l.length := (List.getElem?_eq_some_iff.mp hv).1
    have hpl := hlen p (List.mem_of_getElem? hv)
    refine wpAny_pyNext_list_item (x := .str p.1 p.2) hit' hl' (by simp [strValues, hv]) fun h₁ hit₁ hs₁ => ?_
    refine wpAny_bind (m := letOwnedTupleGo _ _ _) (wpAny_of_eq (a := ()) rfl ?_)
    refine wpAny_bind (wpAny_assign_Name (wpAny_storeName_local (m := m') rfl (hn'.sameBut hs₁ (Ne.symm hIC)) (fun h₂ hn₂ hs₂ => ?_) rfl))
    replace hs₂ : Heap.SameBut C h₁ h₂ := hs₂
    replace hs₁ : Heap.SameBut I H h₁ := hs₁
    have up₂ : ∀ b o, b ≠ C → b ≠ I → H.get? b = some o → h₂.get? b = some o := fun b o hbC hbI e => hs₂.extBut b o hbC (hs₁.extBut b o hbI e)
    have W2 : Wd mg mb h₂ := hold h₂ fun b o hbC hbI hbD e => up₂ b o hbC hbI (hk b o hbC hbI hbD e)
    have hit₂ : h₂.IsListIter I ax (i + 1) := hit₁.extBut hs₂.extBut hIC
    have hl₂ : h₂.IsList ax (strValues l).toArray := hl'.at fun o e => up₂ ax o haC haI e
    have hacc₂ : h₂.IsList D (strValues l').toArray := hacc'.at fun o e => up₂ D o hDC hDI e
    refine wpAny_bind (callN (nameG (s := { s with heap := h₂, toks := tk + 1 }) W2 W2.words (cwF1 (nameL (s := { s with heap := h₂, toks := tk + 1 }) hn₂ (by rfl) ⟨W2.fwords, ?_⟩)) rfl rfl hg))
    refine call_words (s := { s with heap := h₂, toks := tk + 1 }) W2 (by omega) hh (by show p.1.length ≤ 1000; omega) fun D2 l2 s₃ hl2 k₃ hD2 hfr => ?_
    obtain ⟨h₃, tk₃, rfl, kk₃⟩ := k₃
    replace kk₃ : ∀ b o, h₂.get? b = some o → h₃.get? b = some o := kk₃
    replace hD2 : h₃.IsList D2 (strValues l2).toArray := hD2
    refine wpAny_bind (wpAny_standAt (wpAny_bind (wpAny_of_eq (a := .ref D2) rfl (wpAny_bind (wpAny_holding (wpAny_pyIter_list (s := { s with heap := h₃, toks := tk₃ }) hD2 ?_))))))
    replace hfr : h₂.get? D2 = none := hfr
    have hD2D : D2 ≠ D := by rintro rfl; obtain ⟨o, e, _⟩ := hacc₂; rw [hfr] at e; cases e
    have hD2C : D2 ≠ C := by rintro rfl; obtain ⟨o, _, _, e, _⟩ := hn₂; exact absurd (hfr.symm.trans e) (by simp)
    have hn₃ := hn₂.keeps kk₃
    have hacc₃ := hacc₂.at fun o e => kk₃ _ o e
    have hit₃ := hit₂.at fun o e => kk₃ _ o e
    have hl₃ := hl₂.at fun o e => kk₃ _ o e
    have I2 : h₃.objs.size ≠ C := Nat.ne_of_gt hn₃.lt
    have I2D : D ≠ h₃.objs.size := by obtain ⟨o, e, _⟩ := hacc₃; exact Nat.ne_of_lt (Heap.lt_size e)
    have I2D2 : D2 ≠ h₃.objs.size := by obtain ⟨o, e, _⟩ := hD2; exact Nat.ne_of_lt (Heap.lt_size e)
    have I2I : I ≠ h₃.objs.size := by obtain ⟨o, e, _⟩ := hit₃; exact Nat.ne_of_lt (Heap.lt_size e)
    have I2ax : ax ≠ h₃.objs.size := by obtain ⟨o, e, _⟩ := hl₃; exact Nat.ne_of_lt (Heap.lt_size e)
    have hlw : l2.length ≤ 901 := by
      have h1 := congrArg List.length hl2
      have h2 := wordsP_len (· == 32) p.1.cps.toList
      have h3 : p.1.cps.toList.length = p.1.length := by simp [Str.length]
      simp at h1 h2
      have h4 : p.1.cps.size = p.1.length := rfl
      omega
    generalize hH4 : h₃.push { cls := .type "list_iterator", data := .fields #[.ref D2, .int 0 0] } = H4
    have old4 : ∀ b o, h₃.get? b = some o → H4.get? b = some o := fun b o e => hH4 ▸ Heap.get?_push_of_some _ e
    have hit4 : H4.IsListIter h₃.objs.size D2 0 := ⟨_, hH4 ▸ Heap.get?_push_size _ rfl, rfl, rfl⟩
    refine wpAny_bind (wpAny_runOwn (run_in (s := { s with heap := H4, toks := tk₃ }) hh I2D hDC I2 I2D2 hD2C hD2D hit4 (hD2.at fun o e => old4 _ o e) (hacc₃.at fun o e => old4 _ o e) (hn₃.keeps old4) (by simp [strValues]; omega) fun h₅ tk₅ m₅ hn₅ hD₅ hk₅ => ?_))
    rw [strValues_app] at hD₅
    replace hk₅ : ∀ b o, b ≠ C → b ≠ h₃.objs.size → b ≠ D → H4.get? b = some o → h₅.get? b = some o := hk₅
    refine wpAny_pure ⟨rfl, l.length + 1 - (i + 1), by omega, h₅, tk₅, m₅, i + 1, l' ++ l2, rfl, hit₃.at fun o e => hk₅ _ o hIC I2I (Ne.symm hDI) (old4 _ o e), hl₃.at fun o e => hk₅ _ o haC I2ax haD (old4 _ o e), hD₅, ?_, by simp; omega, hn₅, hlt, rfl, fun b o hbC hbI hbD e => ?_⟩
    · rw [take_words l i p hv, List.map_append, List.map_append, hw', hl2]; rfl
    · have e3 := kk₃ b o (up₂ b o hbC hbI (hk b o hbC hbI hbD e))
      exact hk₅ b o hbC (Nat.ne_of_lt (Heap.lt_size e3)) hbD (old4 b o e3)

theorem comp_nested {ax : Addr} {l : List (Str × Tok)} {m : Str → Option Value} {Q : Value → Shared → Prop} (W : Wd mg mb s.heap) (hA : A.depth ≤ 350) (hh : A.handled = none) (hg : env.globals = mainGlobals) (hn : s.heap.Ns env.locals m) (hv : m src = some (.ref ax))
    (hl : s.heap.IsList ax (strValues l).toArray) (hlen : ∀ p ∈ l, p.1.length ≤ 900) (hcnt : l.length ≤ 900)
    (h : ∀ D l' s', l'.map (·.1) = ((l.map (·.1.cps.toList)).flatMap rowWords).map S → Keeps s s' → s'.heap.IsList D (strValues l').toArray → Q (.ref D) s')
    (hk : env.scope.kind = .function := by rfl) (hx : env.kindOf src = some .local := by rfl) (hd : (src == ("__debug__" : Str)) = false := by decide) :
    wpAny (model prog w) A (eval (eN src p1 p2 p3 p4 p5 p6 p7 p8) env) Q E s := by
  unfold eN
  refine comp_frame (by decide) (by decide) rfl (by decide) (nameL hn hv (wpAny_pyIter_list hl ?_) hk hx hd)
  have hax : ax < s.heap.objs.size := by obtain ⟨o, e, _⟩ := hl; exact Heap.lt_size e
  have hz : (s.heap.push { cls := .type "list_iterator", data := .fields #[.ref ax, .int 0 0] }).objs.size = s.heap.objs.size + 1 := Heap.size_push ..
  generalize hH : s.heap.push { cls := .type "list_iterator", data := .fields #[.ref ax, .int 0 0] } = H at hz
  have old : ∀ b o, s.heap.get? b = some o → H.get? b = some o := fun b o e => hH ▸ Heap.get?_push_of_some _ e
  have hit : H.IsListIter s.heap.objs.size ax 0 := ⟨_, hH ▸ Heap.get?_push_size _ rfl, rfl, rfl⟩
  refine ⟨_, rfl, fun s' Q' E' K hQ => wpAny_pyIter_listiter (hit.at fun o e => kGet K e) hQ, fun s₃ hD hC K => ?_⟩
  dsimp only at hD hC ⊢
  rw [hz] at hD hC ⊢
  have lt : ∀ b, b < s.heap.objs.size → b ≠ s.heap.objs.size ∧ b ≠ s.heap.objs.size + 1 ∧ b ≠ s.heap.objs.size + 1 + 1 := fun b hb => by omega
  have far := lt ax hax
  have o3 : ∀ b o, s.heap.get? b = some o → s₃.heap.get? b = some o := fun b o e => kGet K (old b o e)
  refine loop_out (W.keeps o3) hA hh hg (neN (by omega)) (neN (by omega)) (neN (by omega)) far.1 far.2.2 far.2.1 (fun h' hk' => W.keeps fun b o e => ?_) (hit.at fun o e => kGet K e) ((hl.at fun o e => o3 _ o e)) hD hC hlen hcnt fun h' tk m' l' hn' hl' hw hk' => ?_
  · have q := lt b (Heap.lt_size e)
    exact hk' b o q.2.2 q.1 q.2.1 (o3 b o e)
  · refine ⟨⟨_, rfl⟩, m', hn', fun h'' hs'' => h _ l' _ hw ?_ (hl'.extBut hs''.extBut (neN (by omega)))⟩
    obtain ⟨h3, tk3, rfl, kk⟩ := K
    refine ⟨h'', tk, rfl, fun b o e => ?_⟩
    have q := lt b (Heap.lt_size e)
    exact hs''.extBut b o q.2.2 (hk' b o q.2.2 q.1 q.2.1 (o3 b o e))
end
end Mine
end

section
open PySem PySem.Builtin PySem.Builtin.Str PySem.W PyProof.Rows
namespace Mine

theorem gives_rmul_bool (b : Bool) (x : Str) (t : Tok) : Gives (Builtin.«int.__rmul__» ⟨[.bool b, .str x t], []⟩) (.val (Value.notImplemented)) :=
  .of_wp fun M A E s Q h => by obtain ⟨hp, g, d, tk, os⟩ := s; cases b <;> (wp_walk; exact ⟨_, rfl, h⟩)
theorem gives_mul_true (x : Str) (t : Tok) : Gives («str.__mul__» ⟨[.str x t, .bool true], []⟩) (.val (.str x t)) :=
  .of_wp fun M A E s Q h => by obtain ⟨hp, g, d, tk, os⟩ := s; wp_walk; exact ⟨_, rfl, h⟩
theorem gives_mul_false (x : Str) (t : Tok) : Gives («str.__mul__» ⟨[.str x t, .bool false], []⟩) (.str Str.empty) :=
  .of_wp fun M A E s Q h => by obtain ⟨hp, g, d, tk, os⟩ := s; wp_walk; exact ⟨_, rfl, h.2⟩

section
variable {prog : Program} {w : World} {A : Around} {E : Value → Shared → Prop} {s : Shared} {mg mb : Str → Option Value} {env : Env} {Q : Value → Shared → Prop}

theorem mulSB {x : Str} {t : Tok} {b : Bool} (h : ∀ s' t', Keeps s s' → Q (.str (if b then x else Str.empty) t') s') : wpAny (model prog w) A (binaryOp .Mult (.str x t) (.bool b)) Q E s := by
  refine wpAny_binaryOp_repeat (T := "str") (U := "bool") (by decide) (fun s' => typeIs_str s' x t) (fun s' => typeIs_bool' s' b) noFill_str_mul F.fills_bool_mul F.slot_bool_rmul repeat_str F.slot_bool_index.lookup ?_
  refine call_gives F.slot_bool_rmul (typeIs_bool' s b) F.entry_int_rmul (F.args_int_rmul_2 _ _) (gives_rmul_bool b x t) ⟨rfl, ?_⟩
  cases b
  · exact call_gives F.slot_str_mul (typeIs_str s x t) F.entry_str_mul (F.args_str_mul_2 _ _) (gives_mul_false x t) ⟨by decide, h _ _ kTok⟩
  · exact call_gives F.slot_str_mul (typeIs_str s x t) F.entry_str_mul (F.args_str_mul_2 _ _) (gives_mul_true x t) (h _ _ kRefl)

/-- the first sign, as a text -/
theorem sliceTo {value : Expr} {j : Int} {p q pos : Pos} {k : Nat} (h : wpAny (model prog w) A (eval value env) (fun v s₁ => ∃ x t, v = .str x t ∧ x.length ≤ 100000 ∧ ∀ s' t', Keeps s₁ s' → Q (.str (Txt.slice x none (some j)) t') s') E s)
    (ht : ∀ o r, letTemporaryGo value o r = pure () := by intro _ _; rfl) :
    wpAny (model prog w) A (eval (.Subscript value (.Slice none (some (.Constant (.int j) k q)) none p) pos) env) Q E s := by
  refine wpAny_Subscript_str_slice (wpAny_mono h (fun v s₁ h₁ => ?_) fun _ _ e => e) ht
  obtain ⟨x, t, rfl, hx, h₁⟩ := h₁
  rw [evalPart_none]
  refine wpAny_pure ?_
  show wpAny _ _ (eval (.Constant (.int j) k q) env) _ _ s₁
  refine wpAny_Constant_int ⟨x, t, none, some (j, s₁.toks), rfl, rfl, rfl, ?_⟩
  exact post_val_or_str ⟨Nat.le_trans (Txt.slice_le x _ _) (by rw [sizeLine_eq]; omega), fun t' k' => h₁ _ _ ⟨_, k', rfl, fun b o e => Heap.get?_push_of_some _ e⟩⟩

theorem addLists {a b : Addr} {xs ys : List Value} (ha : s.heap.IsList a xs.toArray) (hb : s.heap.IsList b ys.toArray) (hsz : xs.length + ys.length ≤ 100000)
    (h : ∀ s' D, Keeps s s' → s'.heap.IsList D (xs ++ ys).toArray → Q (.ref D) s') : wpAny (model prog w) A (binaryOp .Add (.ref a) (.ref b)) Q E s := by
  obtain ⟨⟨cls, dd, data, sl⟩, ho, hc, n, hd⟩ := id ha
  obtain ⟨⟨cls2, dd2, data2, sl2⟩, ho2, hc2, n2, hd2⟩ := id hb
  simp only at hc hd hc2 hd2
  subst hc hd hc2 hd2
  have e : xs.toArray ++ ys.toArray = (xs ++ ys).toArray := by simp
  refine concat_meets ⟨_, ho, rfl⟩ ⟨_, ho2, rfl⟩ noFill_list_add seq_list_add PySem.F.slot_list_add PySem.F.entry_list_add (PySem.F.args_list_add_2 _ _) (list_addW a b xs.toArray ys.toArray n n2 dd dd2 sl sl2 (by rw [sizeLine_eq]; simp; omega)) ⟨ho, ho2, ?_⟩
  rw [e]
  exact h _ _ ⟨_, _, rfl, fun b o e => Heap.get?_push_of_some _ e⟩ ⟨_, Heap.get?_push_size _ rfl, rfl, _, rfl⟩

/-- the first items of a list -/
theorem sliceList {value : Expr} {j : Int} {p q pos : Pos} {k : Nat} (h0 : 0 ≤ j) (h : wpAny (model prog w) A (eval value env) (fun v s₁ => ∃ a vs ns, v = .ref a ∧ s₁.heap.IsList a (vs : List Value).toArray ∧ IntsAre vs ns ∧ ns.length ≤ 1000 ∧
      ∀ s' D ws, Keeps s₁ s' → s'.heap.IsList D (ws : List Value).toArray → IntsAre ws (ns.take j.toNat) → Q (.ref D) s') E s)
    (ht : ∀ o r, letTemporaryGo value o r = pure () := by intro _ _; rfl) :
    wpAny (model prog w) A (eval (.Subscript value (.Slice none (some (.Constant (.int j) k q)) none p) pos) env) Q E s := by
  refine wpAny_Subscript_list_slice (wpAny_mono h (fun v s₁ h₁ => ?_) fun _ _ e => e) ht
  obtain ⟨a, vs, ns, rfl, hl, hi, hn, h₁⟩ := h₁
  rw [evalPart_none]
  refine wpAny_pure ?_
  show wpAny _ _ (eval (.Constant (.int j) k q) env) _ _ s₁
  refine wpAny_Constant_int ⟨a, vs.toArray, none, some j, rfl, hl, ?_, .none, .int _ _, ?_⟩
  · rw [sizeLine_eq]; simp [hi.length]; omega
  have hI := slice_ints_uptoW hi (y := j) h0
  refine h₁ _ _ _ ⟨_, _, rfl, fun b o e => Heap.get?_push_of_some _ (Heap.get?_push_of_some _ e)⟩ ?_ hI
  rw [show (slicePick vs.toArray none (some j) none).toList.toArray = slicePick vs.toArray none (some j) none from rfl]
  have := Heap.get?_push_size ((s₁.heap.push { cls := .type "slice", data := .fields #[.none, .int j s₁.toks, .none] })) (o := { cls := .type "list", data := .seq (slicePick vs.toArray none (some j) none) }) rfl
  rw [Heap.size_push] at this
  exact ⟨_, this, rfl, _, rfl⟩

theorem joinS {D : Addr} {l : List (Str × Tok)} {ts : List (List Nat)} {sep : Str} {t : Tok} (hl : s.heap.IsList D (strValues l).toArray) (ht : l.map (·.1) = ts.map S) (hB : ∀ a ∈ ts, a.length ≤ 1000) (hn : ts.length ≤ 10000) (hsep : sep.length ≤ 10)
    (h : ∀ s' tk, Keeps s s' → Q (.str (S (joinL sep.cps.toList ts)) tk) s') : wpAny (model prog w) A (call (.builtin "str.join") [.str sep t, .ref D]) Q E s := by
  refine SC.join hl ht ?_ fun t' k' => ?_
  · unfold JoinOk
    rw [StrLaws.joinFits (B := 1000)]
    · rfl
    · intro y hy; obtain ⟨z, hz, rfl⟩ := List.mem_map.mp hy; rw [S_length]; exact hB z hz
    · simp only [List.length_map]
      have : ts.length * sep.length ≤ 10000 * 10 := Nat.mul_le_mul hn hsep
      omega
  · rw [txt_join]; exact h _ _ kTok

theorem methJoin {recv : Expr} {apos pos : Pos} {args : List Expr}
    (h : wpAny (model prog w) A (eval recv env) (fun v s₁ => ∃ x t, v = .str x t ∧ wpAny (model prog w) A (callWith pos (.builtin "str.join") [.str x t] (backTo pos (starEach args env)) []) Q E s₁) E s)
    (hbase : attributeBase recv "join" env (eval recv env) = eval recv env := by rfl)
    (hfew : ((backTo pos (starEach args env)).all (fun x => !x.1) && (backToKw pos (keywordEach [] env)).all (fun x => x.1.isSome)
      && decide (args.length + ([] : List Keyword).length + (if ([] : List Keyword).isEmpty then 0 else 1) < 30)) = true := by rfl)
    (hline : (apos.endLine == pos.line) = true := by rfl) :
    wpAny (model prog w) A (eval (.Call (.Attribute recv "join" apos) args [] pos) env) Q E s := by
  refine methS (id := "str.join") ?a ?b h hbase hfew hline
  case a => exact F.slot_str_join
  case b => exact F.type_str_join
theorem methSplit {recv : Expr} {apos pos : Pos} {args : List Expr}
    (h : wpAny (model prog w) A (eval recv env) (fun v s₁ => ∃ x t, v = .str x t ∧ wpAny (model prog w) A (callWith pos (.builtin "str.split") [.str x t] (backTo pos (starEach args env)) []) Q E s₁) E s)
    (hbase : attributeBase recv "split" env (eval recv env) = eval recv env := by rfl)
    (hfew : ((backTo pos (starEach args env)).all (fun x => !x.1) && (backToKw pos (keywordEach [] env)).all (fun x => x.1.isSome)
      && decide (args.length + ([] : List Keyword).length + (if ([] : List Keyword).isEmpty then 0 else 1) < 30)) = true := by rfl)
    (hline : (apos.endLine == pos.line) = true := by rfl) :
    wpAny (model prog w) A (eval (.Call (.Attribute recv "split" apos) args [] pos) env) Q E s := by
  refine methS (id := "str.split") ?a ?b h hbase hfew hline
  case a => exact F.slot_str_split
  case b => exact F.type_str_split

theorem list_ne_ns {h : Heap} {D L : Addr} {items : Array Value} {m : Str → Option Value} (hl : h.IsList D items) (hn : h.Ns L m) : D ≠ L := by
  rintro rfl
  obtain ⟨o, e, _, n, hd⟩ := hl
  obtain ⟨o', es, ep, e', hd', _⟩ := hn
  rw [e] at e'; cases e'
  rw [hd] at hd'; cases hd'
/-- what a store of a name does -/
theorem storeK {s₀ : Shared} {m : Str → Option Value} {x : Str} {v : Value} {E : Value → Shared → Prop} {M : Model} {Q : Unit → Shared → Prop} (k : Keeps s₀ s) (hL : s₀.heap.objs.size ≤ env.locals) (hn : s.heap.Ns env.locals m)
    (h : ∀ s', Keeps s₀ s' → s'.heap.Ns env.locals (fun z => if z = x then some v else m z) → (∀ D items, s.heap.IsList D items → s'.heap.IsList D items) → Q () s')
    (hx : env.kindOf x = some .local := by rfl) (hp : (env.scope.kind == .class || (env.scope.kind == .module && env.locals != env.globals)) = false := by rfl) : wpAny M A (storeName env x v) Q E s := by
  refine wpAny_storeName_local hx hn (fun h' hn' hs' => ?_) hp
  exact h _ (kBut k hL fun b o hb e => hs'.extBut b o hb e) hn' fun D items hl => hl.extBut hs'.extBut (list_ne_ns hl hn)
end
end Mine
end

section
open PySem PySem.Builtin PySem.Builtin.Str PySem.W PyProof.Rows
namespace Mine

def signsL : List Nat := [13, 10, 46, 97, 66, 32, 45]
def signOf (a : Int) : Nat := signsL.getD (a.fmod 7).toNat 0
def tailL : List Int := [3, 2, 4, 1, 2, 3, 5, 0, 1, 2, 2, 6, 4]
/-- the text that the law builds -/
def textL (ns : List Int) : List Nat := (ns.take 10 ++ tailL).map signOf

theorem menu_len : (("\r\n.aB -" : Str).length : Int) = 7 := by decide +kernel
theorem menu_item (i : Nat) (h : i < 7) : Txt.item ("\r\n.aB -" : Str) (i : Int) = ⟨#[signsL.getD i 0]⟩ := by
  rcases (by omega : i = 0 ∨ i = 1 ∨ i = 2 ∨ i = 3 ∨ i = 4 ∨ i = 5 ∨ i = 6) with rfl | rfl | rfl | rfl | rfl | rfl | rfl <;> decide +kernel
theorem fmod7 (a : Int) : 0 ≤ a.fmod 7 ∧ a.fmod 7 < 7 := ⟨Int.fmod_nonneg_of_pos a (by decide), Int.fmod_lt_of_pos a (by decide)⟩

def constsOf : List Expr → List (Int × Nat × Pos)
  | .Constant (.int i) k p :: r => (i, k, p) :: constsOf r
  | _ => []

section
variable {prog : Program} {w : World} {A : Around} {E : Value → Shared → Prop} {s : Shared} {mg mb : Str → Option Value} {env : Env} {Q : Value → Shared → Prop}

theorem spliced_ints {M : Model} : ∀ (cs : List (Int × Nat × Pos)) (s : Shared) (Q : List Value → Shared → Prop), (∀ s' ws, Keeps s s' → IntsAre ws (cs.map (·.1)) → Q ws s') →
    wpAny M A (spliced (cs.map fun c => (false, eval (.Constant (.int c.1) c.2.1 c.2.2) env))) Q E s
  | [], s, Q, h => Calls.spliced_nil (h s [] kRefl .nil)
  | c :: r, s, Q, h => Calls.spliced_cons (wpAny_Constant_int (spliced_ints r _ _ fun s' ws k hi => h s' _ (kTrans kTok k) (.cons _ _ hi)))

theorem listInts {M : Model} {elts : List Expr} {pos : Pos} (h : ∀ s' D ws, Keeps s s' → s'.heap.IsList D (ws : List Value).toArray → IntsAre ws ((constsOf elts).map (·.1)) → Q (.ref D) s') (hn : (constsOf elts).length ≤ 100)
    (he : backTo pos (starEach elts env) = (constsOf elts).map fun c => (false, eval (.Constant (.int c.1) c.2.1 c.2.2) env)) : wpAny M A (eval (.List elts pos) env) Q E s := by
  refine wpAny_List ?_
  rw [he]
  refine spliced_ints _ _ _ fun s' ws k hi => ⟨?_, h _ _ ws (kTrans k ⟨_, _, rfl, fun b o e => Heap.get?_push_of_some _ e⟩) ⟨_, Heap.get?_push_size _ rfl, rfl, _, rfl⟩ hi⟩
  rw [hi.length, List.length_map, sizeLine_eq]; omega

theorem paired_signs : ∀ {vs : List Value} {ns : List Int} {ys : List Value}, IntsAre vs ns → Paired (fun v y => ∃ a t u, v = Value.int a t ∧ y = Value.str ⟨#[signOf a]⟩ u) vs ys →
    ys.length = ns.length ∧ ∀ (j : Nat) v, ys[j]? = some v → ∃ c u, (ns.map signOf)[j]? = some c ∧ v = Value.str ⟨#[c]⟩ u
  | _, _, _, .nil, .nil => ⟨rfl, by simp⟩
  | _, _, _, .cons n t hi, .cons h p => by
    obtain ⟨h1, h2⟩ := paired_signs hi p
    obtain ⟨a, t', u, e, rfl⟩ := h
    cases e
    refine ⟨by simp [h1], fun j v hj => ?_⟩
    cases j with
    | zero => simp at hj; exact ⟨signOf n, u, by simp, hj.symm⟩
    | succ j => simp at hj; obtain ⟨c, u', h3, h4⟩ := h2 j v hj; exact ⟨c, u', by simpa using h3, h4⟩

theorem ints_mem : ∀ {vs : List Value} {ns : List Int}, IntsAre vs ns → ∀ v ∈ vs, ∃ b u, v = .int b u
  | _, _, .nil, v, h => nomatch h
  | _, _, .cons n t hi, v, h => by
    rcases List.mem_cons.mp h with rfl | h
    · exact ⟨_, _, rfl⟩
    · exact ints_mem hi v h

set_option maxHeartbeats 2000000 in
theorem text_call {L fa a : Addr} {cd : Value} {vs : List Value} {ns : List Int} {m : Str → Option Value} (hh : A.handled = none) (hn : s.heap.Ns L m) (hm : m "script" = some (.ref a)) (hl : s.heap.IsList a vs.toArray) (hi : IntsAre vs ns) (hlen : ns.length ≤ 63)
    {e : Expr} {t : Expr} {p : Pos} (he : (bodyOf (topAt 13)).getD 0 (.Pass p) = .Assign [t] e p)
    (h : ∀ s' tk, Keeps s s' → Q (.str (S (textL ns)) tk) s') :
    wpAny (model prog w) A (eval e (envOf "law" (scopeOf (topAt 13)) L fa cd)) Q E s := by
  injection he with e1 e2 e3
  subst e2
  clear e1 e3
  refine methJoin ?_
  refine constS fun s₁ t₁ k₁ => ⟨_, _, rfl, ?_⟩
  have hn₁ := hn.keeps (kAll k₁)
  refine cwB1 ?_
  refine wpAny_ListComp_map (fun _ => true) (fun v y => ∃ a t u, v = Value.int a t ∧ y = Value.str ⟨#[signOf a]⟩ u) hh (by decide) (by decide) rfl (by decide) rfl ?_
  refine wpAny_BinOp ?_
  refine sliceList (by decide) ?_
  refine nameL hn₁ hm ⟨a, vs, ns, rfl, hl.at fun o e => kGet k₁ e, hi, by omega, fun s₂ D ws k₂ hD hI => ?_⟩
  replace hI : IntsAre ws (ns.take 10) := hI
  refine listInts ?hh ?hn ?he
  case hn => decide
  case he => rfl
  intro s₃ D₂ ws₂ k₃ hD₂ hI₂
  have hI₂' : IntsAre ws₂ tailL := hI₂
  have l1 := hI.length
  have l2 := hI₂'.length
  have l3 : (ns.take 10).length ≤ 10 := by simp; omega
  have l4 : tailL.length = 13 := rfl
  refine addLists (hD.at fun o e => kGet k₃ e) hD₂ (by omega) fun s₄ D₃ k₄ hD₃ => ?_
  have hII := hI.append hI₂'
  refine ⟨D₃, _, rfl, hD₃, ?_, ?_, ?_, ?_⟩
  · rw [sizeLine_eq]; simp; omega
  · intro C v s₅ m₅ E' hv hn hm hk
    exact wpAny_tests_nil ⟨rfl, kRefl⟩
  · intro C v s₅ m₅ E' hv _ hn hm hk
    obtain ⟨b, u, rfl⟩ : ∃ b u, v = .int b u := ints_mem hII v (by simpa using hv)
    refine Subscript_ (constS fun s₆ t₆ k₆ => wpAny_BinOp (nameL (hn.keeps (kAll k₆)) hm (constI fun s₇ t₇ k₇ => mod_int' (by decide) ?_)))
    have hf := fmod7 b
    refine item_str ?_ (by rw [menu_len]; omega) (by rw [menu_len]; omega) fun _ => ?_
    · exact fitsSsize_of (N := 9223372036854775808) (by omega) (by omega) (Int.le_refl _)
    · have e : b.fmod 7 = (((b.fmod 7).toNat : Nat) : Int) := by omega
      have e2 : Txt.item ("\r\n.aB -" : Str) (b.fmod 7) = ⟨#[signOf b]⟩ := by rw [e, menu_item _ (by omega)]; rfl
      rw [e2]
      exact ⟨⟨b, u, _, rfl, rfl⟩, kTrans k₆ (kTrans k₇ (kTrans kTok kTok))⟩
  · intro D₅ h₅ tk₅ ys hnew hD₅ hP hk₅
    have e0 : List.filter (fun _ => true) (ws ++ ws₂).toArray.toList = ws ++ ws₂ := List.filter_eq_self.mpr fun _ _ => rfl
    rw [e0] at hP
    obtain ⟨q1, q2⟩ := paired_signs hII hP
    refine joinSingles (s := { s₄ with heap := h₅, toks := tk₅ }) (g := textL ns) hD₅ ?_ ?_ ?_ fun s₆ t₆ k₆ => h _ _ (kTrans k₁ (kTrans k₂ (kTrans k₃ (kTrans k₄ (kTrans ⟨h₅, tk₅, rfl, hk₅⟩ k₆)))))
    · have e5 : (textL ns).length = ys.toList.length := by rw [textL, List.length_map, ← q1]
      rw [e5]; simp
    · intro j v hj
      exact q2 j v (by simpa using hj)
    · rw [textL, List.length_map, List.length_append]; omega
end
end Mine
end

section
open PySem PySem.Builtin PySem.Builtin.Str PySem.W PyProof.Rows
namespace Mine

/-- a dot more where a row begins with one -/
def dot (r : List Nat) : List Nat := if r.head? = some 46 then 46 :: r else r
def sentL (T : List Nat) : List (List Nat) := (rowsL T).map dot
def plainL (T : List Nat) : List Nat := joinL [32] ((rowsL T).flatMap rowWords)
def quoL (T : List Nat) : List Nat := qd true (fixS false T)
def capL (l : List Nat) : Str := Txt.join (S [32]) ((Txt.words (S l)).map Txt.capitalize)

/-- the plain law -/
structure PureLaw (T : List Nat) : Prop where
  l1 : quoL T = joinL [13, 10] (sentL T)
  l2 : capL (quoL T) = S (joinL [32] ((sentL T).flatMap rowWords))
  l3 : capL T = S (plainL T)
  l4 : capL (fixS false T) = S (plainL T)
  l5 : Txt.join ⟨#[45]⟩ ((Txt.split (S (quoL T)) ⟨#[45]⟩).map Txt.capitalize) = S (joinL [45] ((splitP (· == 45) (quoL T)).map greatL))
  l6 : quoL (plainL T) = dot (plainL T)
  len : T.length ≤ 23
  rows : (rowsL T).length ≤ 24 ∧ ∀ r ∈ rowsL T, r.length ≤ 23
  plain : (plainL T).length ≤ 300
  quo : (quoL T).length ≤ 200
  fix : (fixS false T).length ≤ 200

theorem cap_room {x : Str} (hx : x.length ≤ 300) : (∀ y ∈ Txt.words x, (Txt.capitalized y).length ≤ 1000) ∧ (spaceWords x (x.length + 1)).length ≤ sizeLine := by
  have ww := StrLaws.words_weight x
  refine ⟨fun y hy => ?_, ?_⟩
  · have h1 := mem_le_sum (List.mem_map_of_mem (f := (·.length)) hy)
    have h2 := len_capitalized y
    omega
  · have h1 := (StrLaws.sw_weight x).1
    have h2 := StrLaws.len_le_wsum (spaceWords x (x.length + 1))
    rw [sizeLine_eq]; omega
section
variable {prog : Program} {w : World} {A : Around} {E : Value → Shared → Prop} {s : Shared} {mg mb : Str → Option Value} {env : Env} {Q : Value → Shared → Prop}

theorem dots_codes : (("." : Str)).cps.toList = [46] := by decide +kernel
theorem dot_str : ("." : Str) = S [46] := by decide +kernel
theorem hyp_str : ("-" : Str) = ⟨#[45]⟩ := by decide +kernel
theorem crlf_codes : (("\r\n" : Str)).cps.toList = [13, 10] := by decide +kernel
theorem blank_codes : ((" " : Str)).cps.toList = [32] := by decide +kernel
theorem slice1 (x : Str) : (Txt.slice x none (some 1) == ("." : Str)) = decide (x.cps.toList.head? = some 46) := by
  rw [← toList_beq, dots_codes]
  have e : Txt.slice x none (some 1) = StrLaws.sliceText x none (some 1) := rfl
  rw [e]
  cases hx : x.cps.toList with
  | nil =>
    have hl : x.length = 0 := by have := congrArg List.length hx; simpa [Str.length] using this
    have : StrLaws.sliceText x none (some 1) = x := by
      unfold StrLaws.sliceText
      rw [hl]
      rfl
    rw [this, hx]; rfl
  | cons c r =>
    rw [StrLaws.sliceText_to ⟨by decide, by rw [hx]; simp; omega⟩, hx]
    simp
    rfl
theorem dot_add (x : Str) : (if (Txt.slice x none (some 1) == ("." : Str)) = true then ("." : Str) else Str.empty) ++ x = S (dot x.cps.toList) := by
  rw [slice1]
  unfold dot
  by_cases h : x.cps.toList.head? = some 46
  · rw [if_pos (by simpa using h), if_pos h, dot_str]
    apply Str.ext'
    rw [Str.cps_append]; simp [S]
  · rw [if_neg (by simpa using h), if_neg h, Str.empty_append, S_cps]

/-- «'.' * (x[:1] == '.') + x» -/
theorem dotted {x : Str} {v : Tok} {nm : Str} {m : Str → Option Value} {p1 p2 p3 p4 p5 p6 p7 p8 p9 p10 : Pos} (hn : s.heap.Ns env.locals m) (hv : m nm = some (.str x v)) (hx : x.length ≤ 10000) (hk : env.scope.kind = .function) (hl : env.kindOf nm = some .local) (hd : (nm == ("__debug__" : Str)) = false)
    (h : ∀ s' t, Keeps s s' → Q (.str (S (dot x.cps.toList)) t) s') :
    wpAny (model prog w) A (eval (.BinOp (.BinOp (.Constant (.str ".") 0 p1) .Mult (.Compare (.Subscript (.Name nm p2) (.Slice none (some (.Constant (.int 1) 0 p3)) none p4) p5) [.Eq] [.Constant (.str ".") 0 p6] p7) p8) .Add (.Name nm p9) p10) env) Q E s := by
  refine wpAny_BinOp (wpAny_BinOp (constS fun s₁ t₁ k₁ => wpAny_Compare1 (sliceTo (nameL (hn.keeps (kAll k₁)) hv ⟨x, v, rfl, by omega, fun s₂ t₂ k₂ => constS fun s₃ t₃ k₃ => eq_str (mulSB fun s₄ t₄ k₄ => ?_)⟩ hk hl hd))))
  have K := kTrans k₁ (kTrans k₂ (kTrans k₃ k₄))
  refine nameL (hn.keeps (kAll K)) hv (add_str (fun t₅ tk₅ => ?_) ?_) hk hl hd
  · rw [dot_add]
    exact h _ _ (kTrans K kTok)
  · rw [sizeLine_eq]
    split
    · rw [dot_str, S_length]; simp; omega
    · show (0 : Nat) + x.length ≤ _; omega
end
end Mine
end

section
open PySem PySem.Builtin PySem.Builtin.Str PySem.W PyProof.Rows
namespace Mine

section
variable {prog : Program} {w : World} {A : Around} {E : Value → Shared → Prop} {s s₀ : Shared} {mg mb : Str → Option Value}

theorem rows_of {l : List (Str × Tok)} {ts : List (List Nat)} (h : l.map (·.1) = ts.map S) : l.map (·.1.cps.toList) = ts := by
  have := congrArg (List.map (fun y : Str => y.cps.toList)) h
  rw [List.map_map, List.map_map] at this
  rw [show (fun y : Str => y.cps.toList) ∘ S = _root_.id from funext S_toList, List.map_id] at this
  exact this

theorem ne_self (x : Str) : (x != x) = false := by simp [bne]
theorem sent_len {T : List Nat} (P : PureLaw T) : (sentL T).length ≤ 24 ∧ ∀ r ∈ sentL T, r.length ≤ 24 := by
  refine ⟨by unfold sentL; simpa using P.rows.1, fun r hr => ?_⟩
  obtain ⟨a, ha, rfl⟩ := List.mem_map.mp hr
  have := P.rows.2 a ha
  unfold dot
  split
  · simp; omega
  · omega
theorem words_few {ts : List (List Nat)} {B N : Nat} (hB : ∀ r ∈ ts, r.length ≤ B) (hN : ts.length ≤ N) : (ts.flatMap rowWords).length ≤ N * (B + 1) ∧ ∀ a ∈ ts.flatMap rowWords, a.length ≤ B := by
  constructor
  · have : (ts.flatMap rowWords).length ≤ ts.length * (B + 1) := by
      clear hN
      induction ts with
      | nil => simp
      | cons r q ih =>
        rw [List.flatMap_cons, List.length_append, List.length_cons, Nat.succ_mul]
        have h1 := ih fun a ha => hB a (List.mem_cons_of_mem _ ha)
        have h2 : (rowWords r).length ≤ r.length + 1 := by unfold rowWords; rw [List.length_map]; exact wordsP_len _ _
        have h3 := hB r List.mem_cons_self
        omega
    exact Nat.le_trans this (Nat.mul_le_mul_right _ hN)
  · intro a ha
    obtain ⟨r, hr, ha⟩ := List.mem_flatMap.mp ha
    unfold rowWords at ha
    obtain ⟨b, hb, rfl⟩ := List.mem_map.mp ha
    rw [great_len]
    have h1 := splitP_sub _ _ b (List.mem_filter.mp hb).1
    have h2 := hB r hr
    omega


abbrev lawEnv (L fa : Addr) (cd : Value) : Env := envOf "law" (scopeOf (topAt 13)) L fa cd

section
variable {L fa D : Addr} {cd : Value} {m : Str → Option Value} {Q : Value → Shared → Prop} {p1 p2 p3 p4 : Pos} {l T : List Nat} {tx : Tok}
theorem ev_quoT (W : Wd mg mb s.heap) (hA : A.depth ≤ 350) (hn : s.heap.Ns L m) (hv : m "text" = some (.str (S l) tx)) (hl : l.length ≤ 300) (h : ∀ s' t, Keeps s s' → Q (.str (S (quoL l)) t) s') :
    wpAny (model prog w) A (eval (.Call (.Name "quotedata" p1) [.Name "text" p2] [] p3) (lawEnv L fa cd)) Q E s := by
  refine callN (nameG W W.quo (cwF1 (nameL hn hv ⟨W.fquo, ?_⟩)))
  refine call_quo W (by omega) (by show l.toArray.size ≤ 400; simp; omega) fun s' t k => ?_
  rw [S_toList]; exact h s' t k
theorem ev_quoP (W : Wd mg mb s.heap) (hA : A.depth ≤ 350) (hn : s.heap.Ns L m) (hv : m "plain" = some (.str (S l) tx)) (hl : l.length ≤ 300) (h : ∀ s' t, Keeps s s' → Q (.str (S (quoL l)) t) s') :
    wpAny (model prog w) A (eval (.Call (.Name "quotedata" p1) [.Name "plain" p2] [] p3) (lawEnv L fa cd)) Q E s := by
  refine callN (nameG W W.quo (cwF1 (nameL hn hv ⟨W.fquo, ?_⟩)))
  refine call_quo W (by omega) (by show l.toArray.size ≤ 400; simp; omega) fun s' t k => ?_
  rw [S_toList]; exact h s' t k
theorem ev_fix (W : Wd mg mb s.heap) (hA : A.depth ≤ 350) (hn : s.heap.Ns L m) (hv : m "text" = some (.str (S l) tx)) (hl : l.length ≤ 300) (h : ∀ s' t, Keeps s s' → Q (.str (S (fixS false l)) t) s') :
    wpAny (model prog w) A (eval (.Call (.Name "_fix_eols" p1) [.Name "text" p2] [] p3) (lawEnv L fa cd)) Q E s := by
  refine callN (nameG W W.fix (cwF1 (nameL hn hv ⟨W.ffix, ?_⟩)))
  refine call_fix W (by omega) (by show l.toArray.size ≤ 1000; simp; omega) fun s' t k => ?_
  rw [S_toList]; exact h s' t k
/-- capwords of what an expression gives -/
theorem ev_cap {e : Expr} (W : Wd mg mb s.heap) (hA : A.depth ≤ 350) (hh : A.handled = none) (he : backTo p3 (starEach [e] (lawEnv L fa cd)) = [(false, eval e (lawEnv L fa cd))])
    (h : wpAny (model prog w) A (eval e (lawEnv L fa cd)) (fun v s₁ => ∃ l t, v = .str (S l) t ∧ l.length ≤ 300 ∧ Keeps s s₁ ∧ ∀ s' t', Keeps s₁ s' → Q (.str (capL l) t') s') E s) :
    wpAny (model prog w) A (eval (.Call (.Name "capwords" p1) [e] [] p3) (lawEnv L fa cd)) Q E s := by
  refine callN (nameG W W.cap (cwF1 (i := 2) (nm := "capwords") (dV := .ref 32) (cd := 38) (wpAny_mono h (fun v s₁ h₁ => ?_) fun _ _ x => x) he))
  obtain ⟨l, t, rfl, hl, k, h₁⟩ := h₁
  have W1 := W.keeps (kAll k)
  have hS : (S l).length ≤ 300 := by rw [S_length]; exact hl
  have cr := cap_room hS
  exact ⟨W1.fcap, call_cap0 W1 (by omega) hh (by omega) cr.1 cr.2 fun s' t' k' => h₁ s' t' k'⟩
theorem ev_sent {ls : List (Str × Tok)} (hn : s.heap.Ns L m) (hs : m "sent" = some (.ref D)) (hD : s.heap.IsList D (strValues ls).toArray) (hS : ls.map (·.1) = (sentL T).map S) (P : PureLaw T) (hline : (p2.endLine == p4.line) = true)
    (h : ∀ s' t, Keeps s s' → Q (.str (S (quoL T)) t) s') :
    wpAny (model prog w) A (eval (.Call (.Attribute (.Constant (.str "\r\n") 0 p1) "join" p2) [.Name "sent" p3] [] p4) (lawEnv L fa cd)) Q E s := by
  obtain ⟨sl1, sl2⟩ := sent_len P
  refine methJoin (constS fun s₁ t₁ k₁ => ⟨_, _, rfl, cwB1 (nameL (hn.keeps (kAll k₁)) hs ?_)⟩) rfl rfl hline
  refine joinS (hD.at fun o e => kGet k₁ e) hS (fun a ha => by have := sl2 a ha; omega) (by omega) (by decide) fun s₂ t₂ k₂ => ?_
  rw [crlf_codes, ← P.l1]
  exact h _ _ (kTrans k₁ k₂)
end

set_option maxHeartbeats 2000000 in
/-- the tests -/
theorem law_tests {L fa D : Addr} {cd : Value} {T : List Nat} {tt tp : Tok} {ls : List (Str × Tok)} {m : Str → Option Value} {Q : Flow → Shared → Prop} (W₀ : Wd mg mb s₀.heap) (hA : A.depth ≤ 320) (hh : A.handled = none) (K : Keeps s₀ s) (hn : s.heap.Ns L m)
    (ht : m "text" = some (.str (S T) tt)) (hs : m "sent" = some (.ref D)) (hp : m "plain" = some (.str (S (plainL T)) tp)) (hD : s.heap.IsList D (strValues ls).toArray) (hS : ls.map (·.1) = (sentL T).map S) (P : PureLaw T) (h : ∀ s', Keeps s₀ s' → Q (.ret (.bool true)) s') :
    wpAny (model prog w) A (execs ((bodyOf (topAt 13)).drop 4) (envOf "law" (scopeOf (topAt 13)) L fa cd)) Q E s := by
  have Wk : ∀ {s' : Shared}, Keeps s s' → Wd mg mb s'.heap := fun k => W₀.keeps (kAll (kTrans K k))
  have Nk : ∀ {s' : Shared}, Keeps s s' → s'.heap.Ns L m := fun k => hn.keeps (kAll k)
  have Dk : ∀ {s' : Shared}, Keeps s s' → s'.heap.IsList D (strValues ls).toArray := fun k => hD.at fun o e => kGet k e
  have hT := P.len
  have hq := P.quo
  have hf := P.fix
  obtain ⟨sl1, sl2⟩ := sent_len P
  -- the first test
  refine wpAny_execs_cons (wpAny_If (isTrue_or (wpAny_isTrue_Compare1 (ev_quoT (Wk kRefl) (by omega) hn ht (by omega) fun s₁ t₁ k₁ => ?_))))
  refine ev_sent (Nk k₁) hs (Dk k₁) hS P rfl fun s₂ t₂ k₂ => ne_str (wpAny_truthy_bool ?_)
  rw [ne_self, if_neg (by simp)]
  have K₂ := kTrans k₁ k₂
  refine isTrue_or (wpAny_isTrue_Compare1 (ev_cap (Wk K₂) (by omega) hh rfl (ev_quoT (Wk K₂) (by omega) (Nk K₂) ht (by omega) fun s₃ t₃ k₃ => ⟨_, _, rfl, by omega, k₃, fun s₄ t₄ k₄ => ?_⟩)))
  have K₄ := kTrans K₂ (kTrans k₃ k₄)
  refine methJoin (constS fun s₅ t₅ k₅ => ⟨_, _, rfl, cwB1 ?_⟩)
  have K₅ := kTrans K₄ k₅
  refine comp_nested (Wk K₅) (by omega) hh rfl (Nk K₅) hs (Dk K₅) (fun p hp => by have := mem_filter_words hS sl2 p hp; omega) (by have := congrArg List.length hS; simp at this; omega) fun D₆ lw s₆ hlw k₆ hD₆ => ?_
  rw [rows_of hS] at hlw
  obtain ⟨wf1, wf2⟩ := words_few sl2 sl1
  refine joinS hD₆ hlw (fun a ha => by have := wf2 a ha; omega) (by omega) (by decide) fun s₇ t₇ k₇ => ne_str (wpAny_truthy_bool ?_)
  rw [blank_codes, ← P.l2, ne_self, if_neg (by simp)]
  refine isTrue_or_nil ?_
  rw [if_neg (by simp)]
  have K₇ := kTrans K₅ (kTrans k₆ k₇)
  refine wpAny_execs_nil ?_
  -- the second test
  refine wpAny_execs_cons (wpAny_If (isTrue_or (wpAny_isTrue_Compare1 (ev_cap (Wk K₇) (by omega) hh rfl (nameL (Nk K₇) ht ⟨_, _, rfl, by omega, kRefl, fun s₈ t₈ k₈ => ?_⟩)))))
  have K₈ := kTrans K₇ k₈
  refine nameL (Nk K₈) hp (ne_str (wpAny_truthy_bool ?_))
  rw [P.l3, ne_self, if_neg (by simp)]
  refine isTrue_or (wpAny_isTrue_Compare1 (ev_cap (Wk K₈) (by omega) hh rfl (ev_fix (Wk K₈) (by omega) (Nk K₈) ht (by omega) fun s₉ t₉ k₉ => ⟨_, _, rfl, by omega, k₉, fun s₁₀ t₁₀ k₁₀ => ?_⟩)))
  have K₁₀ := kTrans K₈ (kTrans k₉ k₁₀)
  refine nameL (Nk K₁₀) hp (ne_str (wpAny_truthy_bool ?_))
  rw [P.l4, ne_self, if_neg (by simp)]
  refine isTrue_or_nil ?_
  rw [if_neg (by simp)]
  refine wpAny_execs_nil ?_
  -- the third test
  have hsp := txt_split (S (quoL T)) 45
  rw [S_toList] at hsp
  have hspl : ∀ a ∈ splitP (· == 45) (quoL T), a.length ≤ 300 := fun a ha => by have := (splitP_sub _ _ a ha).1; omega
  have hspn := splitP_len (· == 45) (quoL T)
  have hspm : ∀ p ∈ Txt.split (S (quoL T)) ⟨#[45]⟩, p.length ≤ 300 := fun p hp => by
    rw [hsp] at hp
    obtain ⟨a, ha, rfl⟩ := List.mem_map.mp hp
    rw [S_length]; exact hspl a ha
  refine wpAny_execs_cons (wpAny_If (wpAny_isTrue_Compare1 (callN (nameG (Wk K₁₀) (Wk K₁₀).cap (cwF2 (i := 2) (nm := "capwords") (dV := .ref 32) (cd := 38) (ev_quoT (Wk K₁₀) (by omega) (Nk K₁₀) ht (by omega) fun s₁₁ t₁₁ k₁₁ => constS fun s₁₂ t₁₂ k₁₂ => ?_))))))
  have K₁₂ := kTrans K₁₀ (kTrans k₁₁ k₁₂)
  refine ⟨(Wk K₁₂).fcap, ?_⟩
  rw [hyp_str]
  refine call_cap1 (Wk K₁₂) (by omega) hh (by rw [S_length]; omega) rfl (fun p hp => by have := hspm p hp; omega) (fun p hp => by have := hspm p hp; have := len_capitalized p; omega) (by rw [hsp, List.length_map]; omega) fun s₁₃ t₁₃ k₁₃ => ?_
  have K₁₃ := kTrans K₁₂ k₁₃
  rw [P.l5]
  refine methJoin (constS fun s₁₄ t₁₄ k₁₄ => ⟨_, _, rfl, cwB1 ?_⟩)
  have K₁₄ := kTrans K₁₃ k₁₄
  refine wpAny_ListComp_map (fun _ => true) (fun v y => ∃ a t u, v = Value.str a t ∧ y = Value.str (S (greatL a.cps.toList)) u) hh (by decide) (by decide) rfl (by decide) rfl ?_
  refine methSplit (ev_sent (Nk K₁₄) hs (Dk K₁₄) hS P rfl fun s₁₅ t₁₅ k₁₅ => ⟨_, _, rfl, cwB1 (constS fun s₁₆ t₁₆ k₁₆ => ?_)⟩)
  have K₁₆ := kTrans K₁₄ (kTrans k₁₅ k₁₆)
  refine SCG.split1 (Fm := Keeps s) (pushKeeps s) K₁₆ rfl (fun D₁₇ lh s₁₇ hlh K₁₇ hD₁₇ => ?_) (by rw [S_length, sizeLine_eq]; omega) ?_
  · rw [hsp] at hlh
    have hll : lh.length = (splitP (· == 45) (quoL T)).length := by have := congrArg List.length hlh; simpa using this
    refine ⟨D₁₇, _, rfl, hD₁₇, ?_, ?_, ?_, ?_⟩
    · rw [sizeLine_eq]; simp [strValues]; omega
    · intro C v s₅ m₅ E' hv hn hm hk
      exact wpAny_tests_nil ⟨rfl, kRefl⟩
    · intro C v s₁₈ m₁₈ E' hv _ hn hm hk
      obtain ⟨y, u, rfl, hy⟩ : ∃ y u, v = .str y u ∧ y.length ≤ 300 := by
        simp [strValues] at hv
        obtain ⟨a, b, hab, rfl⟩ := hv
        exact ⟨_, _, rfl, mem_filter_words hlh hspl _ hab⟩
      have W18 := (Wk K₁₇).keeps hk
      refine callN (nameG W18 W18.great (cwF1 (nameL hn hm ⟨W18.fgreat, ?_⟩)))
      exact call_great W18 (by omega) hh (by show y.length ≤ 1000; omega) fun s₆ t₆ k₆ => ⟨⟨y, u, t₆, rfl, rfl⟩, k₆⟩
    · intro D₁₈ h₁₈ tk₁₈ ys hnew hD₁₈ hP₁₈ hk₁₈
      have e0 : List.filter (fun _ => true) (strValues lh).toArray.toList = strValues lh := List.filter_eq_self.mpr fun _ _ => rfl
      rw [e0] at hP₁₈
      obtain ⟨lg, e1, e2⟩ := paired_great hP₁₈
      have hys : ys = (strValues lg).toArray := by rw [← e1]
      subst hys
      have K₁₈ : Keeps s { s₁₇ with heap := h₁₈, toks := tk₁₈ } := kTrans K₁₇ ⟨h₁₈, tk₁₈, rfl, hk₁₈⟩
      refine joinS (s := { s₁₇ with heap := h₁₈, toks := tk₁₈ }) hD₁₈ (great_words hlh e2) (fun a ha => ?_) (by rw [List.length_map]; omega) (by decide) fun s₁₉ t₁₉ k₁₉ => ne_str (wpAny_truthy_bool ?_)
      · obtain ⟨b, hb, rfl⟩ := List.mem_map.mp ha
        rw [great_len]; have := hspl b hb; omega
      have K₁₉ := kTrans K₁₈ k₁₉
      rw [show (⟨#[45]⟩ : Str).cps.toList = [45] from rfl, ne_self, if_neg (by simp)]
      refine wpAny_execs_nil ?_
      -- the last
      refine wpAny_execs_cons (wpAny_Return_some (wpAny_Compare1 (ev_quoP (Wk K₁₉) (by omega) (Nk K₁₉) hp P.plain fun s₂₀ t₂₀ k₂₀ => ?_)))
      have K₂₀ := kTrans K₁₉ k₂₀
      refine dotted (env := lawEnv L fa cd) (Nk K₂₀) hp (by rw [S_length]; have := P.plain; omega) rfl rfl (by decide) fun s₂₁ t₂₁ k₂₁ => eq_str ?_
      rw [S_toList, P.l6]
      have := h s₂₁ (kTrans K (kTrans K₂₀ k₂₁))
      simpa using this
  · refine Nat.le_trans (parts_le _ ⟨#[45]⟩ _ _) ?_
    have := StrLaws.occ_length_le (S (quoL T)) ⟨#[45]⟩ 0 (S (quoL T)).length ((S (quoL T)).length + 1)
    rw [S_length] at this ⊢
    rw [sizeLine_eq]; omega

end
end Mine
end

section
open PySem PySem.Builtin PySem.Builtin.Str PySem.W PyProof.Rows
namespace Mine

section
variable {prog : Program} {w : World} {A : Around} {E : Value → Shared → Prop} {s s₀ : Shared} {mg mb : Str → Option Value} {Q : Flow → Shared → Prop}

theorem paired_dot : ∀ {l : List (Str × Tok)} {ys : List Value}, Paired (fun v y => ∃ a t u, v = Value.str a t ∧ y = Value.str (S (dot a.cps.toList)) u) (strValues l) ys →
    ∃ l' : List (Str × Tok), ys = strValues l' ∧ l'.map (·.1) = ((l.map (·.1.cps.toList)).map dot).map S
  | [], _, .nil => ⟨[], rfl, rfl⟩
  | p :: r, _, .cons h t => by
    obtain ⟨l', e1, e2⟩ := paired_dot (l := r) t
    obtain ⟨a, t, u, e, rfl⟩ := h
    injection e with e3 e4
    refine ⟨(S (dot a.cps.toList), u) :: l', by rw [e1]; rfl, ?_⟩
    rw [List.map_cons, List.map_cons, List.map_cons, List.map_cons, e2, e3]

/-- the four values that the law's first statements lay down; then the tests -/
theorem law_body {L fa a : Addr} {cd : Value} {vs : List Value} {ns : List Int} {m : Str → Option Value} (W₀ : Wd mg mb s₀.heap) (hA : A.depth ≤ 320) (hh : A.handled = none) (K : Keeps s₀ s) (hL : s₀.heap.objs.size ≤ L) (hn : s.heap.Ns L m)
    (hm : m "script" = some (.ref a)) (hl : s.heap.IsList a vs.toArray) (hi : IntsAre vs ns) (hlen : ns.length ≤ 63) (P : PureLaw (textL ns)) (h : ∀ s', Keeps s₀ s' → Q (.ret (.bool true)) s') :
    wpAny (model prog w) A (execs (bodyOf (topAt 13)) (envOf "law" (scopeOf (topAt 13)) L fa cd)) Q E s := by
  refine wpAny_execs_cons (wpAny_Assign_Name (text_call (p := _) (t := _) hh hn hm hl hi hlen rfl fun s₁ t₁ k₁ => ?_))
  refine storeK (kTrans K k₁) hL (hn.keeps (kAll k₁)) fun s₂ K₂ hn₂ _ => ?_
  generalize textL ns = T at P hn₂
  have W₂ := W₀.keeps (kAll K₂)
  -- rows
  refine wpAny_execs_cons (wpAny_Assign_Name (callN (nameG W₂ W₂.rows (cwF1 (nameL hn₂ rfl ⟨W₂.frows, ?_⟩)))))
  refine call_rows W₂ (by omega) hh (by show T.toArray.size ≤ 400; have := P.len; simp; omega) fun R lr s₃ hR k₃ hRl => ?_
  rw [S_toList] at hR
  refine storeK (kTrans K₂ k₃) hL (hn₂.keeps (kAll k₃)) fun s₄ K₄ hn₄ L₄ => ?_
  replace hRl := L₄ _ _ hRl
  have hrows := rows_of hR
  have hlr : lr.length = (rowsL T).length := by have := congrArg List.length hR; simpa using this
  have hlr2 : ∀ p ∈ lr, p.1.length ≤ 23 := mem_filter_words hR P.rows.2
  have W₄ := W₀.keeps (kAll K₄)
  -- sent
  refine wpAny_execs_cons (wpAny_Assign_ListComp_map (fun _ => true) (fun v y => ∃ a t u, v = Value.str a t ∧ y = Value.str (S (dot a.cps.toList)) u) rfl hh (by decide) (by decide) rfl (by decide) rfl rfl rfl ?_)
  refine nameL hn₄ rfl ⟨R, _, _, rfl, hRl, ?_, hn₄, ?_, ?_, ?_⟩
  · rw [sizeLine_eq]; simp [strValues]; have := P.rows.1; omega
  · intro C v s₅ m₅ E' hv hn hm hk
    exact wpAny_tests_nil ⟨rfl, kRefl⟩
  · intro C v s₅ m₅ E' hv _ hn hm hk
    obtain ⟨y, u, rfl, hy⟩ : ∃ y u, v = .str y u ∧ y.length ≤ 23 := by
      simp [strValues] at hv
      obtain ⟨a, b, hab, rfl⟩ := hv
      exact ⟨_, _, rfl, hlr2 _ hab⟩
    exact dotted (env := compEnv _ C _) hn hm (by omega) rfl rfl (by decide) fun s₆ t₆ k₆ => ⟨⟨y, u, t₆, rfl, rfl⟩, k₆⟩
  intro D₅ h₅ tk₅ ys hnew₅ hD₅ hP₅ hn₅ hk₅
  have e0 : List.filter (fun _ => true) (strValues lr).toArray.toList = strValues lr := List.filter_eq_self.mpr fun _ _ => rfl
  rw [e0] at hP₅
  obtain ⟨ls, e1, hS⟩ := paired_dot hP₅
  have hys : ys = (strValues ls).toArray := by rw [← e1]
  subst hys
  rw [hrows] at hS
  have hRL : R ≠ L := list_ne_ns hRl hn₄
  have K₅ : Keeps s₀ { s₄ with heap := h₅, toks := tk₅ } := kBut K₄ hL hk₅
  have hR₅ : h₅.IsList R (strValues lr).toArray := hRl.at fun o e => hk₅ R o hRL e
  obtain ⟨s₅, e5⟩ : ∃ s₅ : Shared, s₅ = { s₄ with heap := h₅, toks := tk₅ } := ⟨_, rfl⟩
  have hn₅' : s₅.heap.Ns L (fun z => if z = ("sent" : Str) then some (.ref D₅) else if z = ("rows" : Str) then some (.ref R) else if z = ("text" : Str) then some (.str (S T) t₁) else m z) := by rw [e5]; exact hn₅
  have hD₅' : s₅.heap.IsList D₅ (strValues ls).toArray := by rw [e5]; exact hD₅
  have hR₅' : s₅.heap.IsList R (strValues lr).toArray := by rw [e5]; exact hR₅
  show wpAny _ _ (execs _ _) _ _ _
  rw [← e5] at K₅ ⊢
  clear hn₅ hD₅ hR₅ hk₅ hnew₅ hP₅ e1 e5
  have W₅ := W₀.keeps (kAll K₅)
  obtain ⟨sl1, sl2⟩ := sent_len P
  -- plain
  refine wpAny_execs_cons (wpAny_Assign_Name (methJoin (constS fun s₆ t₆ k₆ => ⟨_, _, rfl, cwB1 ?_⟩)))
  have W₆ := W₅.keeps (kAll k₆)
  refine comp_nested W₆ (by omega) hh rfl (hn₅'.keeps (kAll k₆)) (by rfl) (hR₅'.at fun o e => kGet k₆ e) (fun p hp => by have := hlr2 p hp; omega) (by have := P.rows.1; omega) fun D₇ lp s₇ hlp k₇ hD₇ => ?_
  rw [hrows] at hlp
  obtain ⟨wf1, wf2⟩ := words_few P.rows.2 P.rows.1
  refine joinS hD₇ hlp (fun a ha => by have := wf2 a ha; omega) (by omega) (by decide) fun s₈ t₈ k₈ => ?_
  rw [blank_codes]
  refine storeK (kTrans K₅ (kTrans k₆ (kTrans k₇ k₈))) hL (hn₅'.keeps (kAll (kTrans k₆ (kTrans k₇ k₈)))) fun s₉ K₉ hn₉ L₉ => ?_
  have hD₉ := L₉ _ _ (hD₅'.at fun o e => kGet (kTrans k₆ (kTrans k₇ k₈)) e)
  have ht₉ : (fun z => if z = ("plain" : Str) then some (Value.str (S (plainL T)) t₈) else if z = ("sent" : Str) then some (.ref D₅) else if z = ("rows" : Str) then some (.ref R) else if z = ("text" : Str) then some (.str (S T) t₁) else m z) "text" = some (.str (S T) t₁) := rfl
  have hs₉ : (fun z => if z = ("plain" : Str) then some (Value.str (S (plainL T)) t₈) else if z = ("sent" : Str) then some (.ref D₅) else if z = ("rows" : Str) then some (.ref R) else if z = ("text" : Str) then some (.str (S T) t₁) else m z) "sent" = some (.ref D₅) := rfl
  have hp₉ : (fun z => if z = ("plain" : Str) then some (Value.str (S (plainL T)) t₈) else if z = ("sent" : Str) then some (.ref D₅) else if z = ("rows" : Str) then some (.ref R) else if z = ("text" : Str) then some (.str (S T) t₁) else m z) "plain" = some (.str (S (plainL T)) t₈) := rfl
  replace hn₉ : s₉.heap.Ns L (fun z => if z = ("plain" : Str) then some (Value.str (S (plainL T)) t₈) else if z = ("sent" : Str) then some (.ref D₅) else if z = ("rows" : Str) then some (.ref R) else if z = ("text" : Str) then some (.str (S T) t₁) else m z) := hn₉
  generalize (fun z => if z = ("plain" : Str) then some (Value.str (S (plainL T)) t₈) else if z = ("sent" : Str) then some (.ref D₅) else if z = ("rows" : Str) then some (.ref R) else if z = ("text" : Str) then some (.str (S T) t₁) else m z) = m₉ at hn₉ ht₉ hs₉ hp₉
  exact law_tests W₀ hA hh K₉ hn₉ ht₉ hs₉ hp₉ hD₉ hS P h
end
end Mine
end

section
open PySem PySem.Builtin PySem.Builtin.Str PySem.W PyProof.Rows
namespace Mine

/-- every sign is one of the seven -/
def Sig (l : List Nat) : Prop := ∀ c ∈ l, c ∈ signsL
abbrev sp : Nat → Bool := Unicode.isSpace

theorem sp_13 : sp 13 = true := by decide +kernel
theorem sp_10 : sp 10 = true := by decide +kernel
theorem sp_sig (c : Nat) (h : c ∈ signsL) (h1 : c ≠ 13) (h2 : c ≠ 10) : sp c = (c == 32) := by
  simp [signsL] at h
  rcases h with rfl | rfl | rfl | rfl | rfl | rfl | rfl
  · exact absurd rfl h1
  · exact absurd rfl h2
  all_goals decide +kernel
theorem title_sig (c : Nat) (h : c ∈ signsL) : Unicode.titleOf c = [gr 0 c] := by
  simp [signsL] at h
  rcases h with rfl | rfl | rfl | rfl | rfl | rfl | rfl <;> decide +kernel
theorem lower_sig (c : Nat) (h : c ∈ signsL) : Unicode.lowerOf c = [gr 1 c] := by
  simp [signsL] at h
  rcases h with rfl | rfl | rfl | rfl | rfl | rfl | rfl <;> decide +kernel
theorem sigma_sig (c : Nat) (h : c ∈ signsL) : (c == 0x3A3) = false := by
  simp [signsL] at h
  rcases h with rfl | rfl | rfl | rfl | rfl | rfl | rfl <;> rfl

theorem great_mapIdx (l : List Nat) : greatL l = l.mapIdx gr := by
  apply List.ext_getElem?
  intro i
  rw [List.getElem?_mapIdx]
  cases h : l[i]? with
  | none =>
    have : (greatL l).length ≤ i := by rw [great_len]; simpa using h
    simpa using this
  | some c => rw [great_gr l i c h]; rfl
theorem flat_mapIdx : ∀ (l : List Nat) (f : Nat → Nat → List Nat) (g : Nat → Nat → Nat), (∀ (i c : Nat), l[i]? = some c → f i c = [g i c]) → (l.mapIdx f).flatten = l.mapIdx g
  | [], _, _, _ => rfl
  | c :: r, f, g, h => by
    rw [List.mapIdx_cons, List.mapIdx_cons, List.flatten_cons, h 0 c rfl, flat_mapIdx r (fun i => f (i + 1)) (fun i => g (i + 1)) fun i c hc => h (i + 1) c (by simpa using hc)]
    rfl

theorem map_mapIdx' {α β γ : Type} : ∀ (l : List α) (f : Nat → α → β) (g : β → γ), (l.mapIdx f).map g = l.mapIdx fun i c => g (f i c)
  | [], _, _ => rfl
  | c :: r, f, g => by rw [List.mapIdx_cons, List.mapIdx_cons, List.map_cons, map_mapIdx' r (fun i => f (i + 1)) g]

theorem capitalize_sig (p : List Nat) (h : Sig p) : Txt.capitalize (S p) = S (greatL p) := by
  have hc : Txt.capitalized (S p) = S (greatL p) := by
    unfold Txt.capitalized placed
    apply Str.ext'
    show _ = (greatL p).toArray
    apply Array.ext'
    rw [Array.toList_flatten, Array.toList_mapIdx, great_mapIdx]
    rw [show (S p).cps.toList = p from S_toList p]
    rw [map_mapIdx']
    rw [← flat_mapIdx p (fun i c => if (i == 0) = true then Unicode.titleOf c else Unicode.lowerAt (S p).cps i) gr]
    · intro i c hi
      have hs := h c (List.mem_of_getElem? hi)
      cases i with
      | zero => exact title_sig c hs
      | succ i =>
        show Unicode.lowerAt (S p).cps (i + 1) = _
        have e : (S p).cps[i + 1]? = some c := by simpa [S] using hi
        unfold Unicode.lowerAt
        rw [e]
        dsimp only
        rw [sigma_sig c hs, lower_sig c hs]
        rfl
  unfold Txt.capitalize
  split
  · rename_i h0
    have : p = [] := by
      rw [S_length] at h0
      cases p with
      | nil => rfl
      | cons a r => simp at h0
    subst this; rfl
  · exact hc

theorem wordsP_nil (p : Nat → Bool) : wordsP p [] = [] := rfl
theorem wordsP_cons (p : Nat → Bool) (c : Nat) (r : List Nat) (h : p c = true) : wordsP p (c :: r) = wordsP p r := wordsP_mid p c h [] r
theorem wordsP_one (p : Nat → Bool) (a : List Nat) (h : ∀ c ∈ a, p c = false) (hne : a ≠ []) : wordsP p a = [a] := by
  unfold wordsP
  rw [splitP_free p a h]
  cases a with
  | nil => exact absurd rfl hne
  | cons x y => rfl

def cutOf (l : List Nat) (p : Nat × Nat) : List Nat := (l.drop p.1).take (p.2 - p.1)
/-- where the search for words stands -/
structure WAt (l : List Nat) (cur : Nat) (st : StrLaws.SwSt) : Prop where
  none : st.1 = .none
  few : st.2.1.size ≤ cur
  run : ∀ b, st.2.2 = some b → b < cur ∧ ∀ i c, b ≤ i → i < cur → l[i]? = some c → sp c = false
  val : st.2.1.toList.map (cutOf l) ++ wordsP sp (l.drop (st.2.2.getD cur)) = wordsP sp l

theorem w_run (x : Str) : ∀ (m cur : Nat) (st : StrLaws.SwSt), cur + m = x.length → WAt x.cps.toList cur st → WAt x.cps.toList x.length (forIn (List.range' cur m) st (StrLaws.swBody x (x.length + 1))).run
  | 0, cur, st, e, h => by
    have : cur = x.length := by omega
    subst this; exact h
  | m + 1, cur, (r, words, start), e, h => by
    rw [List.range'_succ, List.forIn_cons]
    obtain ⟨h1, h2, h3, h4⟩ := h
    have h1' : r = none := h1
    subst h1'
    have hlt : cur < x.cps.toList.length := by simp; have : x.length = x.cps.size := rfl; omega
    have hd : x.cps.toList.drop cur = x.cps.toList[cur] :: x.cps.toList.drop (cur + 1) := List.drop_eq_getElem_cons hlt
    have hlt' : cur < x.cps.size := by simpa using hlt
    have hg : x.cps.getD cur 0 = x.cps.toList[cur] := by simp [Array.getD, hlt']
    have hgo : x.cps.toList[cur]? = some x.cps.toList[cur] := List.getElem?_eq_getElem hlt
    generalize x.cps.toList[cur] = c at hd hg hgo
    have hsz : ¬ ((words.size == x.length + 1) = true) := by rw [beq_iff_eq]; show ¬ words.size = _; have : words.size ≤ cur := h2; omega
    unfold StrLaws.swBody
    simp only [hsz, if_false, hg]
    cases start with
    | none =>
      cases hsp : Unicode.isSpace c
      · refine w_run x m (cur + 1) _ (by omega) ⟨rfl, Nat.le_succ_of_le h2, ?_, h4⟩
        intro b hb
        cases hb
        refine ⟨by omega, fun i c' hi1 hi2 hi3 => ?_⟩
        have : i = cur := by omega
        subst this
        rw [hgo] at hi3; cases hi3; exact hsp
      · refine w_run x m (cur + 1) _ (by omega) ⟨rfl, Nat.le_succ_of_le h2, (fun b hb => nomatch hb), ?_⟩
        rw [← h4]
        show _ ++ wordsP sp (x.cps.toList.drop (cur + 1)) = _ ++ wordsP sp (x.cps.toList.drop cur)
        rw [hd, wordsP_cons sp c _ hsp]
    | some b =>
      obtain ⟨hb1, hb2⟩ := h3 b rfl
      cases hsp : Unicode.isSpace c
      · refine w_run x m (cur + 1) _ (by omega) ⟨rfl, Nat.le_succ_of_le h2, ?_, h4⟩
        intro b' hb'
        cases hb'
        refine ⟨by omega, fun i c' hi1 hi2 hi3 => ?_⟩
        rcases Nat.lt_or_ge i cur with hi | hi
        · exact hb2 i c' hi1 hi hi3
        · have : i = cur := by omega
          subst this
          rw [hgo] at hi3; cases hi3; exact hsp
      · refine w_run x m (cur + 1) _ (by omega) ⟨rfl, by show (words.push _).size ≤ _; rw [Array.size_push]; exact Nat.succ_le_succ h2, (fun b hb => nomatch hb), ?_⟩
        rw [← h4]
        show (words.push (b, cur)).toList.map (cutOf x.cps.toList) ++ wordsP sp (x.cps.toList.drop (cur + 1)) = words.toList.map (cutOf x.cps.toList) ++ wordsP sp (x.cps.toList.drop b)
        have e2 : x.cps.toList.drop b = cutOf x.cps.toList (b, cur) ++ c :: x.cps.toList.drop (cur + 1) := by
          unfold cutOf
          rw [← hd]
          have : x.cps.toList.drop cur = (x.cps.toList.drop b).drop (cur - b) := by rw [List.drop_drop]; congr 1; omega
          rw [this, List.take_append_drop]
        have hrun : ∀ z ∈ cutOf x.cps.toList (b, cur), sp z = false := by
          intro z hz
          unfold cutOf at hz
          obtain ⟨i, hi⟩ := List.getElem?_of_mem hz
          rw [List.getElem?_take] at hi
          split at hi
          · rw [List.getElem?_drop] at hi
            exact hb2 (b + i) z (by omega) (by omega) hi
          · cases hi
        have hne : cutOf x.cps.toList (b, cur) ≠ [] := by
          intro h0
          have := congrArg List.length h0
          unfold cutOf at this
          simp at this hlt
          omega
        rw [e2, wordsP_mid sp c hsp, wordsP_one sp _ hrun hne, Array.toList_push, List.map_append]
        simp

theorem words_codes (x : Str) : (spaceWords x (x.length + 1)).map (cutOf x.cps.toList) = wordsP sp x.cps.toList := by
  rw [StrLaws.sw_eq]
  have key := w_run x x.length 0 ((none, #[], none) : StrLaws.SwSt) (by omega) ⟨rfl, Nat.le_refl _, (fun b hb => nomatch hb), rfl⟩
  generalize (forIn (List.range' 0 x.length) ((none, #[], none) : StrLaws.SwSt) (StrLaws.swBody x (x.length + 1))).run = st at key
  obtain ⟨r, words, start⟩ := st
  obtain ⟨h1, h2, h3, h4⟩ := key
  have h1' : r = none := h1
  subst h1'
  unfold StrLaws.swEnd
  have hlen : x.cps.toList.length = x.length := by simp [Str.length]
  cases start with
  | none =>
    have h4' : words.toList.map (cutOf x.cps.toList) ++ wordsP sp (x.cps.toList.drop x.length) = _ := h4
    rw [List.drop_eq_nil_of_le (by omega), wordsP_nil, List.append_nil] at h4'
    exact h4'
  | some b =>
    obtain ⟨hb1, hb2⟩ := h3 b rfl
    have h4' : words.toList.map (cutOf x.cps.toList) ++ wordsP sp (x.cps.toList.drop b) = _ := h4
    have hrun : ∀ z ∈ x.cps.toList.drop b, sp z = false := by
      intro z hz
      obtain ⟨i, hi⟩ := List.getElem?_of_mem hz
      rw [List.getElem?_drop] at hi
      have := (List.getElem?_eq_some_iff.mp hi).1
      exact hb2 (b + i) z (by omega) (by omega) hi
    have hne : x.cps.toList.drop b ≠ [] := by
      intro h0
      have := congrArg List.length h0
      simp at this hlen
      omega
    rw [wordsP_one sp _ hrun hne] at h4'
    show (words.push (b, x.length)).toList.map (cutOf x.cps.toList) = _
    rw [Array.toList_push, List.map_append, ← h4']
    congr 1
    show [(x.cps.toList.drop b).take (x.length - b)] = _
    rw [List.take_of_length_le (by rw [List.length_drop]; omega)]

theorem txt_words (x : Str) : Txt.words x = (wordsP sp x.cps.toList).map S := by
  have e : PySem.wordsOf x = (wordsP sp x.cps.toList).map S := by
    unfold PySem.wordsOf
    rw [← words_codes, List.map_map]
    apply List.map_congr_left
    intro p _
    show strSub x p.1 p.2 = S (cutOf x.cps.toList p)
    rw [← S_cps (strSub x p.1 p.2), StrLaws.strSub_toList]; rfl
  unfold Txt.words
  split
  · rename_i h
    rw [← e]
    unfold PySem.wordsOf
    rw [beq_iff_eq.mp h]
    show [x] = [strSub x 0 x.length]
    rw [StrLaws.sub_whole]
  · exact e
end Mine
end

section
open PySem PySem.Builtin PySem.Builtin.Str PySem.W PyProof.Rows
namespace Mine

/-- no end of line within -/
def Row (r : List Nat) : Prop := ∀ c ∈ r, c ≠ 13 ∧ c ≠ 10

theorem rowsC_ne : ∀ (l : List Nat) (b : Bool) (cur : List Nat), ∃ a q, rowsC b cur l = a :: q
  | [], b, cur => ⟨_, _, rfl⟩
  | c :: r, b, cur => by
    unfold rowsC
    split
    · exact ⟨_, _, rfl⟩
    · split
      · split
        · exact rowsC_ne r _ _
        · exact ⟨_, _, rfl⟩
      · exact rowsC_ne r _ _
theorem joinL_cons (sep a : List Nat) : ∀ q : List (List Nat), q ≠ [] → joinL sep (a :: q) = a ++ sep ++ joinL sep q
  | [], h => absurd rfl h
  | _ :: _, _ => rfl
theorem joinL_rows (l : List Nat) : ∀ (b : Bool) (cur : List Nat), joinL [13, 10] (rowsC b cur l) = cur ++ fixS b l := by
  induction l with
  | nil => intro b cur; simp [rowsC, joinL, fixS]
  | cons c r ih =>
    intro b cur
    have ne : ∀ b' cur', rowsC b' cur' r ≠ [] := fun b' cur' => by obtain ⟨a, q, e⟩ := rowsC_ne r b' cur'; rw [e]; simp
    unfold rowsC fixS
    split
    · rw [joinL_cons _ _ _ (ne _ _), ih]; simp
    · split
      · cases b
        · simp only [Bool.false_eq_true, if_false]
          rw [joinL_cons _ _ _ (ne _ _), ih]; simp
        · simp only [if_true]
          exact ih _ _
      · rw [ih]; simp
theorem rows_fix (l : List Nat) : fixS false l = joinL [13, 10] (rowsL l) := by
  unfold rowsL; rw [joinL_rows]; rfl

theorem rowsC_all (Pr : Nat → Prop) (l : List Nat) : ∀ (b : Bool) (cur : List Nat), (∀ c ∈ cur, (c ≠ 13 ∧ c ≠ 10) ∧ Pr c) → (∀ c ∈ l, Pr c) → ∀ row ∈ rowsC b cur l, ∀ c ∈ row, (c ≠ 13 ∧ c ≠ 10) ∧ Pr c := by
  induction l with
  | nil => intro b cur hc _ row hr; simp [rowsC] at hr; subst hr; exact hc
  | cons c r ih =>
    intro b cur hc hl row hr
    have hl' : ∀ c ∈ r, Pr c := fun x hx => hl x (List.mem_cons_of_mem _ hx)
    have nil : ∀ c ∈ ([] : List Nat), (c ≠ 13 ∧ c ≠ 10) ∧ Pr c := fun x hx => nomatch hx
    unfold rowsC at hr
    split at hr
    · rcases List.mem_cons.mp hr with rfl | hr
      · exact hc
      · exact ih _ _ nil hl' row hr
    · rename_i h13
      split at hr
      · split at hr
        · exact ih _ _ hc hl' row hr
        · rcases List.mem_cons.mp hr with rfl | hr
          · exact hc
          · exact ih _ _ nil hl' row hr
      · rename_i h10
        refine ih _ _ ?_ hl' row hr
        intro x hx
        rcases List.mem_append.mp hx with hx | hx
        · exact hc x hx
        · simp at hx; subst hx; exact ⟨⟨h13, h10⟩, hl _ List.mem_cons_self⟩
theorem rowsC_len (l : List Nat) : ∀ (b : Bool) (cur : List Nat), (rowsC b cur l).length ≤ l.length + 1 ∧ ∀ row ∈ rowsC b cur l, row.length ≤ cur.length + l.length := by
  induction l with
  | nil => intro b cur; refine ⟨by simp [rowsC], fun row hr => ?_⟩; simp [rowsC] at hr; subst hr; simp
  | cons c r ih =>
    intro b cur
    unfold rowsC
    split
    · have h := ih true []
      refine ⟨by simp; omega, fun row hr => ?_⟩
      rcases List.mem_cons.mp hr with rfl | hr
      · omega
      · have := h.2 row hr; simp at this ⊢; omega
    · split
      · split
        · have h := ih false cur
          refine ⟨by simp; omega, fun row hr => ?_⟩
          have := h.2 row hr; simp at this ⊢; omega
        · have h := ih false []
          refine ⟨by simp; omega, fun row hr => ?_⟩
          rcases List.mem_cons.mp hr with rfl | hr
          · omega
          · have := h.2 row hr; simp at this ⊢; omega
      · have h := ih false (cur ++ [c])
        refine ⟨by simp; omega, fun row hr => ?_⟩
        have := h.2 row hr; simp at this ⊢; omega

theorem qd_false (r : List Nat) : Row r → qd false r = r := by
  induction r with
  | nil => intro _; rfl
  | cons c r ih =>
    intro h
    have h1 := (h c List.mem_cons_self).2
    rw [qd, show (c == 10) = false by simpa using h1, ih fun x hx => h x (List.mem_cons_of_mem _ hx)]
    simp
theorem qd_true (r : List Nat) (h : Row r) : qd true r = dot r := by
  cases r with
  | nil => rfl
  | cons c r =>
    have h1 := (h c List.mem_cons_self).2
    rw [qd, show (c == 10) = false by simpa using h1, qd_false r fun x hx => h x (List.mem_cons_of_mem _ hx)]
    unfold dot
    by_cases h2 : c = 46
    · simp [h2]
    · simp [h2]
theorem qd_false_cut (x : List Nat) (r : List Nat) : Row r → qd false (r ++ 13 :: 10 :: x) = r ++ 13 :: 10 :: qd true x := by
  induction r with
  | nil => intro _; rfl
  | cons c r ih =>
    intro h
    have h1 := (h c List.mem_cons_self).2
    rw [List.cons_append, qd, show (c == 10) = false by simpa using h1, ih fun x hx => h x (List.mem_cons_of_mem _ hx)]
    simp
theorem qd_true_cut (x r : List Nat) (h : Row r) : qd true (r ++ 13 :: 10 :: x) = dot r ++ 13 :: 10 :: qd true x := by
  cases r with
  | nil => rfl
  | cons c r =>
    have h1 := (h c List.mem_cons_self).2
    rw [List.cons_append, qd, show (c == 10) = false by simpa using h1, qd_false_cut x r fun x hx => h x (List.mem_cons_of_mem _ hx)]
    unfold dot
    by_cases h2 : c = 46
    · simp [h2]
    · simp [h2]
theorem qd_rows : ∀ rows : List (List Nat), (∀ r ∈ rows, Row r) → qd true (joinL [13, 10] rows) = joinL [13, 10] (rows.map dot)
  | [], _ => rfl
  | [r], h => by
    show qd true r = dot r
    exact qd_true r (h r List.mem_cons_self)
  | r :: q :: rest, h => by
    have ih := qd_rows (q :: rest) fun x hx => h x (List.mem_cons_of_mem _ hx)
    show qd true (r ++ [13, 10] ++ joinL [13, 10] (q :: rest)) = dot r ++ [13, 10] ++ joinL [13, 10] ((q :: rest).map dot)
    rw [List.append_assoc]
    show qd true (r ++ 13 :: 10 :: joinL [13, 10] (q :: rest)) = _
    rw [qd_true_cut _ r (h r List.mem_cons_self), ih]
    simp

theorem words_join : ∀ rows : List (List Nat), wordsP sp (joinL [13, 10] rows) = rows.flatMap (wordsP sp)
  | [] => rfl
  | [r] => by simp [joinL]
  | r :: q :: rest => by
    have ih := words_join (q :: rest)
    show wordsP sp (r ++ [13, 10] ++ joinL [13, 10] (q :: rest)) = wordsP sp r ++ (q :: rest).flatMap (wordsP sp)
    rw [List.append_assoc]
    show wordsP sp (r ++ 13 :: 10 :: joinL [13, 10] (q :: rest)) = _
    rw [wordsP_mid sp 13 sp_13, wordsP_cons sp 10 _ sp_10, ih]
theorem words_rows (l : List Nat) : ∀ (b : Bool) (cur : List Nat), (b = true → cur = []) → wordsP sp (cur ++ l) = (rowsC b cur l).flatMap (wordsP sp) := by
  induction l with
  | nil => intro b cur _; simp [rowsC]
  | cons c r ih =>
    intro b cur hb
    unfold rowsC
    split
    · rename_i h; subst h
      rw [wordsP_mid sp 13 sp_13, List.flatMap_cons, ← ih true [] fun _ => rfl]; rfl
    · split
      · rename_i h; subst h
        split
        · rename_i hbt
          rw [hb hbt, ← ih false [] fun _ => rfl]
          exact wordsP_cons sp 10 r sp_10
        · rw [wordsP_mid sp 10 sp_10, List.flatMap_cons, ← ih false [] fun _ => rfl]; rfl
      · rw [← ih false (cur ++ [c]) (by simp)]; simp

theorem flatMap_great (rows : List (List Nat)) (h : ∀ r ∈ rows, Row r ∧ Sig r) : rows.flatMap rowWords = (rows.flatMap (wordsP sp)).map greatL := by
  induction rows with
  | nil => rfl
  | cons r q ih =>
    rw [List.flatMap_cons, List.flatMap_cons, List.map_append, ih fun x hx => h x (List.mem_cons_of_mem _ hx)]
    congr 1
    unfold rowWords
    have hr := h r List.mem_cons_self
    rw [show wordsP (· == 32) r = wordsP sp r by
      unfold wordsP
      rw [splitP_congr (· == 32) sp r fun c hc => (sp_sig c (hr.2 c hc) (hr.1 c hc).1 (hr.1 c hc).2).symm]]

theorem words_sig {l a : List Nat} (h : Sig l) (ha : a ∈ wordsP sp l) : Sig a := fun c hc => h c ((splitP_sub sp l a (List.mem_filter.mp ha).1).2 c hc)
/-- capwords, by its own words -/
theorem capL_eq (l : List Nat) (h : Sig l) : capL l = S (joinL [32] ((wordsP sp l).map greatL)) := by
  unfold capL
  rw [txt_words, S_toList, List.map_map]
  have e : List.map (Txt.capitalize ∘ S) (wordsP sp l) = ((wordsP sp l).map greatL).map S := by
    rw [List.map_map]
    apply List.map_congr_left
    intro a ha
    exact capitalize_sig a (words_sig h ha)
  rw [e, txt_join]
  rfl

theorem fixS_row : ∀ (l : List Nat) (b : Bool), Row l → fixS b l = l
  | [], _, _ => rfl
  | c :: r, b, h => by
    have h1 := h c List.mem_cons_self
    rw [fixS, if_neg h1.1, if_neg h1.2, fixS_row r false fun x hx => h x (List.mem_cons_of_mem _ hx)]
theorem row_join (sep : List Nat) (hs : Row sep) : ∀ ts : List (List Nat), (∀ a ∈ ts, Row a) → Row (joinL sep ts)
  | [], _ => fun c hc => nomatch hc
  | [a], h => h a List.mem_cons_self
  | a :: b :: r, h => by
    have ih := row_join sep hs (b :: r) fun x hx => h x (List.mem_cons_of_mem _ hx)
    intro c hc
    have hc' : c ∈ a ++ sep ++ joinL sep (b :: r) := hc
    rcases List.mem_append.mp hc' with hc' | hc'
    · rcases List.mem_append.mp hc' with hc' | hc'
      · exact h a List.mem_cons_self c hc'
      · exact hs c hc'
    · exact ih c hc'
theorem row_great (a : List Nat) (h : Row a) : Row (greatL a) := by
  cases a with
  | nil => exact h
  | cons c r =>
    intro x hx
    rcases List.mem_cons.mp hx with rfl | hx
    · have := h c List.mem_cons_self
      split
      · omega
      · exact this
    · obtain ⟨y, hy, rfl⟩ := List.mem_map.mp hx
      have := h y (List.mem_cons_of_mem _ hy)
      split
      · omega
      · exact this
theorem joinL_len (sep : List Nat) (hs : sep.length = 1) : ∀ ts : List (List Nat), (joinL sep ts).length ≤ (ts.map List.length).sum + ts.length
  | [] => Nat.zero_le _
  | [a] => by simp [joinL]
  | a :: b :: r => by
    have ih := joinL_len sep hs (b :: r)
    show (a ++ sep ++ joinL sep (b :: r)).length ≤ _
    simp at ih ⊢; omega

theorem fix_len : ∀ (l : List Nat) (b : Bool), (fixS b l).length ≤ 2 * l.length := by
  intro l
  induction l with
  | nil => intro b; simp [fixS]
  | cons c r ih =>
    intro b
    have h1 := ih true
    have h2 := ih false
    unfold fixS
    (repeat' split) <;> simp <;> omega
theorem qd_len : ∀ (l : List Nat) (b : Bool), (qd b l).length ≤ 2 * l.length := by
  intro l
  induction l with
  | nil => intro b; simp [qd]
  | cons c r ih =>
    intro b
    have h1 := ih (c == 10)
    unfold qd
    split <;> simp <;> omega

theorem fix_sig : ∀ (l : List Nat) (b : Bool), Sig l → Sig (fixS b l)
  | [], _, h => h
  | c :: r, b, h => by
    have i1 := fix_sig r true fun x hx => h x (List.mem_cons_of_mem _ hx)
    have i2 := fix_sig r false fun x hx => h x (List.mem_cons_of_mem _ hx)
    have h13 : (13 : Nat) ∈ signsL := by decide
    have h10 : (10 : Nat) ∈ signsL := by decide
    have two : ∀ q, Sig q → Sig (13 :: 10 :: q) := fun q hq x hx => by
      rcases List.mem_cons.mp hx with rfl | hx
      · exact h13
      · rcases List.mem_cons.mp hx with rfl | hx
        · exact h10
        · exact hq x hx
    unfold fixS
    split
    · exact two _ i1
    · split
      · split
        · exact i2
        · exact two _ i2
      · intro x hx
        rcases List.mem_cons.mp hx with rfl | hx
        · exact h _ List.mem_cons_self
        · exact i2 x hx
theorem qd_sig : ∀ (l : List Nat) (b : Bool), Sig l → Sig (qd b l)
  | [], _, h => h
  | c :: r, b, h => by
    have i1 := qd_sig r (c == 10) fun x hx => h x (List.mem_cons_of_mem _ hx)
    have h46 : (46 : Nat) ∈ signsL := by decide
    unfold qd
    intro x hx
    rcases List.mem_append.mp hx with hx | hx
    · split at hx
      · simp at hx; subst hx; exact h46
      · simp at hx; subst hx; exact h _ List.mem_cons_self
    · exact i1 x hx

theorem pure_law (T : List Nat) (hs : Sig T) (hl : T.length ≤ 23) : PureLaw T := by
  have hrows := rowsC_all (· ∈ signsL) T false [] (fun c hc => nomatch hc) hs
  have hR : ∀ r ∈ rowsL T, Row r ∧ Sig r := fun r hr => ⟨fun c hc => (hrows r hr c hc).1, fun c hc => (hrows r hr c hc).2⟩
  have hS : ∀ r ∈ sentL T, Row r ∧ Sig r := by
    intro r hr
    obtain ⟨a, ha, rfl⟩ := List.mem_map.mp hr
    have := hR a ha
    unfold dot
    split
    · refine ⟨fun c hc => ?_, fun c hc => ?_⟩
      · rcases List.mem_cons.mp hc with rfl | hc
        · decide
        · exact this.1 c hc
      · rcases List.mem_cons.mp hc with rfl | hc
        · decide
        · exact this.2 c hc
    · exact this
  have hlen := rowsC_len T false []
  have l1 : quoL T = joinL [13, 10] (sentL T) := by
    unfold quoL; rw [rows_fix, qd_rows _ fun r hr => (hR r hr).1]; rfl
  have wT : wordsP sp T = (rowsL T).flatMap (wordsP sp) := words_rows T false [] (by simp)
  have pl : plainL T = joinL [32] ((wordsP sp T).map greatL) := by unfold plainL; rw [flatMap_great _ hR, ← wT]
  have qs : Sig (quoL T) := qd_sig _ _ (fix_sig _ _ hs)
  refine ⟨l1, ?_, ?_, ?_, ?_, ?_, hl, ⟨by unfold rowsL; omega, fun r hr => by have := hlen.2 r hr; simp at this; omega⟩, ?_, ?_, ?_⟩
  · rw [capL_eq _ qs, l1, words_join, flatMap_great _ hS]
  · rw [capL_eq _ hs, pl]
  · rw [capL_eq _ (fix_sig _ _ hs), rows_fix, words_join, ← wT, pl]
  · rw [txt_split, S_toList, List.map_map]
    have e : List.map (Txt.capitalize ∘ S) (splitP (· == 45) (quoL T)) = ((splitP (· == 45) (quoL T)).map greatL).map S := by
      rw [List.map_map]
      apply List.map_congr_left
      intro a ha
      exact capitalize_sig a fun c hc => qs c ((splitP_sub _ _ a ha).2 c hc)
    rw [e, txt_join]
  · have hp : Row (plainL T) := by
      unfold plainL
      refine row_join [32] (by intro c hc; simp at hc; subst hc; decide) _ fun a ha => ?_
      obtain ⟨r, hr, ha⟩ := List.mem_flatMap.mp ha
      unfold rowWords at ha
      obtain ⟨b, hb, rfl⟩ := List.mem_map.mp ha
      exact row_great b fun c hc => (hR r hr).1 c ((splitP_sub _ _ b (List.mem_filter.mp hb).1).2 c hc)
    unfold quoL
    rw [fixS_row _ _ hp, qd_true _ hp]
  · have ww := StrLaws.words_weight (S T)
    rw [txt_words, S_toList, S_length] at ww
    have jl := joinL_len [32] rfl ((wordsP sp T).map greatL)
    rw [← pl] at jl
    have e1 : (((wordsP sp T).map greatL).map List.length) = (wordsP sp T).map List.length := by
      rw [List.map_map]; apply List.map_congr_left; intro a _; exact great_len a
    have e2 : (((wordsP sp T).map S).map (·.length)) = (wordsP sp T).map List.length := by
      rw [List.map_map]; apply List.map_congr_left; intro a _; exact S_length a
    rw [e1] at jl
    rw [e2] at ww
    simp only [List.length_map] at jl ww
    omega
  · have h1 := qd_len (fixS false T) true
    have h2 := fix_len T false
    unfold quoL; omega
  · have h2 := fix_len T false
    omega

theorem sign_mem (a : Int) : signOf a ∈ signsL := by
  have := fmod7 a
  unfold signOf
  generalize hn : (a.fmod 7).toNat = n
  have hn : n < 7 := by omega
  rcases (by omega : n = 0 ∨ n = 1 ∨ n = 2 ∨ n = 3 ∨ n = 4 ∨ n = 5 ∨ n = 6) with rfl | rfl | rfl | rfl | rfl | rfl | rfl <;> decide
theorem pure_text (ns : List Int) : PureLaw (textL ns) := by
  refine pure_law _ (fun c hc => ?_) ?_
  · obtain ⟨a, _, rfl⟩ := List.mem_map.mp hc; exact sign_mem a
  · unfold textL
    rw [List.length_map, List.length_append, List.length_take]
    have : tailL.length = 13 := rfl
    omega
end Mine
end

section
open PySem PySem.Builtin PySem.Builtin.Str PySem.W PyProof.Rows
namespace Mine

theorem mg_at {K : Frag} {h : Heap} {mg : Str → Option Value} (X : K.In h) (g : h.Ns mainGlobals mg) {o : Obj} {es : Array DictEntry} {ep : Nat} (hl : K.lookup mainGlobals = some o) (hd : o.data = .dict es ep) (x : Str) : mg x = nsFind es x := by
  obtain ⟨o', es', ep', h1, h2, _, h4⟩ := g
  rw [X _ _ hl] at h1
  cases h1
  rw [hd] at h2
  cases h2
  exact (h4 x).symm

theorem fn_at {K : Frag} {h : Heap} (X : K.In h) {a cd : Addr} {i : Nat} {nm : Str} {dV pm : Value} {o oc : Obj} {vs : Array Value} {t : Tok} (hl : K.lookup a = some o) (hd : o.data = .func (mkFd i nm dV cd pm)) (hc : K.lookup cd = some oc) (hcd : oc.data = .fields vs) (hv : vs[1]? = some (.str nm t)) : FnAt h a i nm dV cd :=
  ⟨⟨pm, o, X _ _ hl, hd⟩, ⟨cd, oc, vs, t, rfl, X _ _ hc, hcd, hv⟩⟩

theorem boot_zip : bootBuiltins "zip" = some (.type "zip") := by kernel_rfl
theorem boot_map : bootBuiltins "map" = some (.type "map") := by kernel_rfl
theorem boot_str : bootBuiltins "str" = some (.type "str") := by kernel_rfl
theorem boot_enum : bootBuiltins "enumerate" = some (.type "enumerate") := by kernel_rfl
theorem crlf_str : ("\r\n" : Str) = S [13, 10] := by decide +kernel

theorem code1_vals : (code1.map fun (k : Nat) => Value.int (k : Int) 0) = #[Value.int 14 0, Value.int 4 0, Value.int 0 0, Value.int 1 0, Value.int 1 0, Value.int 6 0, Value.int 1 0, Value.int 16 0, Value.int 46 0, Value.int 1 0] := by simp [code1]
theorem code2_vals : (code2.map fun (k : Nat) => Value.int (k : Int) 0) = #[Value.int 14 0, Value.int 9 0, Value.int 4 0, Value.int 1 0, Value.int 2 0, Value.int 16 0, Value.int 10 0, Value.int 16 0, Value.int 13 0, Value.int 0 0, Value.int 7 0, Value.int 7 0, Value.int 16 0, Value.int 13 0, Value.int 16 0, Value.int 10 0, Value.int 15 0, Value.int 18 0, Value.int 5 0, Value.int 16 0, Value.int 10 0, Value.int 15 0, Value.int 13 0, Value.int 11 0, Value.int 16 0, Value.int 13 0, Value.int 5 0, Value.int 5 0, Value.int 0 0, Value.int 16 0, Value.int 10 0, Value.int 1 0, Value.int 15 0, Value.int 2 0, Value.int 0 0, Value.int 1 0] := by simp [code2]

theorem wd_of {K : Frag} {h : Heap} {mg mb : Str → Option Value} (X : K.In h) (g : h.Ns mainGlobals mg) (b : h.Ns builtinsNs mb) (nl : h.NoLimit) (bb : ∀ x : Str, x ≠ "__name__" → mb x = bootBuiltins x)
    {og : Obj} {es : Array DictEntry} {ep : Nat} (hg : K.lookup mainGlobals = some og) (hgd : og.data = .dict es ep)
    (n1 : nsFind es "zip" = none) (n2 : nsFind es "map" = none) (n3 : nsFind es "str" = none) (n4 : nsFind es "enumerate" = none) {t : Tok} (n5 : nsFind es "CRLF" = some (.str "\r\n" t))
    (n6 : nsFind es "_twin_re_1" = some (.ref 44)) (n7 : nsFind es "_twin_re_2" = some (.ref 49)) (n8 : nsFind es "capwords" = some (.ref 39)) (n9 : nsFind es "quotedata" = some (.ref 56)) (n10 : nsFind es "_fix_eols" = some (.ref 63))
    (n11 : nsFind es "_law_rows" = some (.ref 70)) (n12 : nsFind es "_law_great" = some (.ref 75)) (n13 : nsFind es "_law_words" = some (.ref 80))
    {a0 a1 b0 b1 : Value} (p1 : K.lookup 44 = some { cls := .type "re.Pattern", data := .fields #[a0, a1, .int 0 0, .none, .none, .ref 43, .int 0 0] }) (p1c : K.lookup 43 = some { cls := .type "tuple", data := .seq #[Value.int 14 0, Value.int 4 0, Value.int 0 0, Value.int 1 0, Value.int 1 0, Value.int 6 0, Value.int 1 0, Value.int 16 0, Value.int 46 0, Value.int 1 0] })
    (p2 : K.lookup 49 = some { cls := .type "re.Pattern", data := .fields #[b0, b1, .int 0 0, .none, .none, .ref 48, .int 0 0] }) (p2c : K.lookup 48 = some { cls := .type "tuple", data := .seq #[Value.int 14 0, Value.int 9 0, Value.int 4 0, Value.int 1 0, Value.int 2 0, Value.int 16 0, Value.int 10 0, Value.int 16 0, Value.int 13 0, Value.int 0 0, Value.int 7 0, Value.int 7 0, Value.int 16 0, Value.int 13 0, Value.int 16 0, Value.int 10 0, Value.int 15 0, Value.int 18 0, Value.int 5 0, Value.int 16 0, Value.int 10 0, Value.int 15 0, Value.int 13 0, Value.int 11 0, Value.int 16 0, Value.int 13 0, Value.int 5 0, Value.int 5 0, Value.int 0 0, Value.int 16 0, Value.int 10 0, Value.int 1 0, Value.int 15 0, Value.int 2 0, Value.int 0 0, Value.int 1 0] })
    (tup : K.lookup 32 = some { cls := .type "tuple", data := .seq #[.none] })
    (f1 : FnAt h 39 2 "capwords" (.ref 32) 38) (f2 : FnAt h 56 7 "quotedata" .none 55) (f3 : FnAt h 63 8 "_fix_eols" .none 62) (f4 : FnAt h 70 10 "_law_rows" .none 69) (f5 : FnAt h 75 11 "_law_great" .none 74) (f6 : FnAt h 80 12 "_law_words" .none 79) : Wd mg mb h := by
  have m := mg_at X g hg hgd
  exact ⟨g, b, nl, ⟨(m _).trans n1, (bb _ (by decide)).trans boot_zip⟩, ⟨(m _).trans n2, (bb _ (by decide)).trans boot_map⟩, ⟨(m _).trans n3, (bb _ (by decide)).trans boot_str⟩, ⟨(m _).trans n4, (bb _ (by decide)).trans boot_enum⟩,
    ⟨t, (m _).trans (crlf_str ▸ n5)⟩, (m _).trans n6, (m _).trans n7, ⟨⟨a0, a1, X _ _ p1⟩, by rw [code1_vals]; exact X _ _ p1c⟩, ⟨⟨b0, b1, X _ _ p2⟩, by rw [code2_vals]; exact X _ _ p2c⟩,
    (m _).trans n8, (m _).trans n9, (m _).trans n10, (m _).trans n11, (m _).trans n12, (m _).trans n13, f1, X _ _ tup, f2, f3, f4, f5, f6⟩
end Mine
end


open PySem PySem.W PyProof.Rows
set_option maxRecDepth 100000 in
set_option maxHeartbeats 8000000 in
theorem PySem.Challenge.cw_mj0036_01_holds : PySem.Challenge.rw_mj0036_01.Holds := by
  (w_on; o_law; k_head; (case hw => w_witness2); w_strict (
    k_go0
    rename Fr _ _ _ _ => F9
    rename Top _ _ _ _ _ _ => T9
    rename Frag.In _ _ => X9
    rename Heap.IsList _ _ _ => L9
    rename IntsAre _ _ => I9
    rename ¬ ((_ : Int) < _) => C9
    have W9 := Mine.wd_of X9 T9.g T9.b T9.nolimit T9.builtins rfl rfl (by rfl) (by rfl) (by rfl) (by rfl) rfl (by rfl) (by rfl) (by rfl) (by rfl) (by rfl) (by rfl) (by rfl) (by rfl) rfl (by rfl) rfl (by rfl) (by rfl) (Mine.fn_at X9 rfl rfl rfl rfl rfl) (Mine.fn_at X9 rfl rfl rfl rfl rfl) (Mine.fn_at X9 rfl rfl rfl rfl rfl) (Mine.fn_at X9 rfl rfl rfl rfl rfl) (Mine.fn_at X9 rfl rfl rfl rfl rfl) (Mine.fn_at X9 rfl rfl rfl rfl rfl)
    refine Mine.law_body W9 ?_ ?_ ?_ ?_ F9.ns rfl (L9.at fun o e => F9.keep _ _ e) I9 ?_ (Mine.pure_text _) ?_
    · show callerA.depth + 1 ≤ 320
      decide
    · rfl
    · exact ⟨_, _, rfl, F9.keep⟩
    · exact Nat.le_refl _
    · omega
    · intro s' K'
      obtain ⟨h', tk, rfl, k⟩ := K'
      exact ⟨.inl ⟨_, .bool true, [], rfl, fun _ => rfl, .bool true, by kc_post, fun _ => ⟨.nil, fun _ ha => nomatch ha⟩⟩, k, rfl, by assumption⟩))
