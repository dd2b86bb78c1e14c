import Derived.Test.Qxb6606124aRows
/-! Plain mathematics: the automaton and the recursive-descent reader agree; no Go in sight. -/
namespace Go.Proofs.Qxb6606124a.Pl
set_option linter.unusedVariables false

def dig (c : Int) : Bool := decide (48 ≤ c) && decide (c ≤ 57)
def isE (c : Int) : Bool := c == 101 || c == 69
def isSg (c : Int) : Bool := c == 43 || c == 45

/-- The automaton's step, as the text has it. -/
def stepF (st c : Int) : Int :=
  if st = 0 then (if c = 45 then 1 else if c = 48 then 2 else if dig c then 3 else -1)
  else if st = 1 then (if c = 48 then 2 else if dig c then 3 else -1)
  else if st = 2 then (if c = 46 then 4 else if isE c then 6 else -1)
  else if st = 3 then (if dig c then 3 else if c = 46 then 4 else if isE c then 6 else -1)
  else if st = 4 then (if dig c then 5 else -1)
  else if st = 5 then (if dig c then 5 else if isE c then 6 else -1)
  else if st = 6 then (if isSg c then 7 else if dig c then 8 else -1)
  else if st = 7 ∨ st = 8 then (if dig c then 8 else -1)
  else -1

def runF (st : Int) (l : List Int) : Int := l.foldl stepF st
def accB (st : Int) : Bool := st == 2 || st == 3 || st == 5 || st == 8

theorem dead (l : List Int) : runF (-1) l = -1 := by
  induction l with
  | nil => rfl
  | cons c r ih => exact ih

/-- What digits() leaves. -/
def rest (l : List Int) : List Int := l.dropWhile dig
/-- Does digits() answer yes? -/
def some1 (l : List Int) : Bool := match l with | c :: _ => dig c | [] => false

/-- The exponent's digits, to the end. -/
def tail3 (l : List Int) : Bool := some1 l && (rest l).isEmpty
/-- Behind e or E. -/
def tail2 (l : List Int) : Bool := match l with | c :: r => if isSg c then tail3 r else tail3 l | [] => tail3 []
/-- Behind the digits: the exponent or the end. -/
def tail1 (l : List Int) : Bool := match l with | c :: r => if isE c then tail2 r else false | [] => true
/-- Behind the integer's digits: the fraction. -/
def tail0 (l : List Int) : Bool := match l with | c :: r => if c = 46 then some1 r && tail1 (rest r) else tail1 l | [] => tail1 []
/-- Behind the minus. -/
def body (l : List Int) : Bool := match l with | c :: r => if c = 48 then tail0 r else some1 l && tail0 (rest l) | [] => false
def num (l : List Int) : Bool := match l with | c :: r => if c = 45 then body r else body l | [] => body []

theorem dig_ne {c : Int} (h : dig c = true) : c ≠ 45 ∧ c ≠ 46 ∧ isE c = false ∧ isSg c = false := by
  simp [dig] at h
  refine ⟨by omega, by omega, ?_, ?_⟩
  · simp [isE]; omega
  · simp [isSg]; omega

theorem run8 (l : List Int) : accB (runF 8 l) = (rest l).isEmpty := by
  induction l with
  | nil => rfl
  | cons c r ih =>
    by_cases h : dig c = true
    · have e1 : runF 8 (c :: r) = runF 8 r := by show runF (stepF 8 c) r = _; rw [show stepF 8 c = 8 from by simp [stepF, h]]
      have e2 : rest (c :: r) = rest r := by simp [rest, h]
      rw [e1, e2, ih]
    · have e1 : runF 8 (c :: r) = -1 := by show runF (stepF 8 c) r = _; rw [show stepF 8 c = -1 from by simp [stepF, h]]; exact dead r
      have e2 : rest (c :: r) = c :: r := by simp [rest, h]
      rw [e1, e2]; rfl

theorem run7 (l : List Int) : accB (runF 7 l) = tail3 l := by
  cases l with
  | nil => rfl
  | cons c r =>
    by_cases h : dig c = true
    · have e1 : runF 7 (c :: r) = runF 8 r := by show runF (stepF 7 c) r = _; rw [show stepF 7 c = 8 from by simp [stepF, h]]
      have e2 : rest (c :: r) = rest r := by simp [rest, h]
      rw [e1, run8]; simp [tail3, some1, h, e2]
    · have e1 : runF 7 (c :: r) = -1 := by show runF (stepF 7 c) r = _; rw [show stepF 7 c = -1 from by simp [stepF, h]]; exact dead r
      rw [e1]; simp [tail3, some1, h, accB]

theorem run6 (l : List Int) : accB (runF 6 l) = tail2 l := by
  cases l with
  | nil => rfl
  | cons c r =>
    by_cases hs : isSg c = true
    · have e1 : runF 6 (c :: r) = runF 7 r := by show runF (stepF 6 c) r = _; rw [show stepF 6 c = 7 from by simp [stepF, hs]]
      rw [e1, run7]; simp [tail2, hs]
    · have e0 : tail2 (c :: r) = tail3 (c :: r) := by simp [tail2, hs]
      rw [e0, ← run7]
      have e1 : stepF 6 c = stepF 7 c := by simp [stepF, hs]
      show accB (runF (stepF 6 c) r) = accB (runF (stepF 7 c) r)
      rw [e1]

theorem run5 (l : List Int) : accB (runF 5 l) = tail1 (rest l) := by
  induction l with
  | nil => rfl
  | cons c r ih =>
    by_cases h : dig c = true
    · have e1 : runF 5 (c :: r) = runF 5 r := by show runF (stepF 5 c) r = _; rw [show stepF 5 c = 5 from by simp [stepF, h]]
      have e2 : rest (c :: r) = rest r := by simp [rest, h]
      rw [e1, e2, ih]
    · have e2 : rest (c :: r) = c :: r := by simp [rest, h]
      rw [e2]
      by_cases he : isE c = true
      · have e1 : runF 5 (c :: r) = runF 6 r := by show runF (stepF 5 c) r = _; rw [show stepF 5 c = 6 from by simp [stepF, h, he]]
        rw [e1, run6]; simp [tail1, he]
      · have e1 : runF 5 (c :: r) = -1 := by show runF (stepF 5 c) r = _; rw [show stepF 5 c = -1 from by simp [stepF, h, he]]; exact dead r
        rw [e1]; simp [tail1, he, accB]

theorem run4 (l : List Int) : accB (runF 4 l) = (some1 l && tail1 (rest l)) := by
  cases l with
  | nil => rfl
  | cons c r =>
    by_cases h : dig c = true
    · have e1 : runF 4 (c :: r) = runF 5 r := by show runF (stepF 4 c) r = _; rw [show stepF 4 c = 5 from by simp [stepF, h]]
      have e2 : rest (c :: r) = rest r := by simp [rest, h]
      rw [e1, run5, e2]; simp [some1, h]
    · have e1 : runF 4 (c :: r) = -1 := by show runF (stepF 4 c) r = _; rw [show stepF 4 c = -1 from by simp [stepF, h]]; exact dead r
      rw [e1]; simp [some1, h, accB]

/-- What follows the integer part, at a list that does not open with a digit or at a lone nought. -/
theorem run_tail0 (st : Int) (l : List Int) (h0 : accB st = true) (h : ∀ c, stepF st c = if c = 46 then 4 else if isE c then 6 else -1) : accB (runF st l) = tail0 l := by
  cases l with
  | nil => exact h0
  | cons c r =>
    by_cases hd : c = 46
    · have e1 : runF st (c :: r) = runF 4 r := by show runF (stepF st c) r = _; rw [h, if_pos hd]
      rw [e1, run4]; simp [tail0, hd]
    · by_cases he : isE c = true
      · have e1 : runF st (c :: r) = runF 6 r := by show runF (stepF st c) r = _; rw [h, if_neg hd, if_pos he]
        rw [e1, run6]; simp [tail0, hd, tail1, he]
      · have e1 : runF st (c :: r) = -1 := by show runF (stepF st c) r = _; rw [h, if_neg hd, if_neg he]; exact dead r
        rw [e1]; simp [tail0, hd, tail1, he, accB]

theorem run2 (l : List Int) : accB (runF 2 l) = tail0 l := run_tail0 2 l rfl (fun c => by simp [stepF])

theorem run3 (l : List Int) : accB (runF 3 l) = tail0 (rest l) := by
  induction l with
  | nil => rfl
  | cons c r ih =>
    by_cases h : dig c = true
    · have e1 : runF 3 (c :: r) = runF 3 r := by show runF (stepF 3 c) r = _; rw [show stepF 3 c = 3 from by simp [stepF, h]]
      have e2 : rest (c :: r) = rest r := by simp [rest, h]
      rw [e1, e2, ih]
    · have e2 : rest (c :: r) = c :: r := by simp [rest, h]
      rw [e2, ← run2]
      have e1 : stepF 3 c = stepF 2 c := by simp [stepF, h]
      show accB (runF (stepF 3 c) r) = accB (runF (stepF 2 c) r)
      rw [e1]

theorem run1 (l : List Int) : accB (runF 1 l) = body l := by
  cases l with
  | nil => rfl
  | cons c r =>
    by_cases h0 : c = 48
    · have e1 : runF 1 (c :: r) = runF 2 r := by show runF (stepF 1 c) r = _; rw [show stepF 1 c = 2 from by simp [stepF, h0]]
      rw [e1, run2]; simp [body, h0]
    · by_cases h : dig c = true
      · have e1 : runF 1 (c :: r) = runF 3 r := by show runF (stepF 1 c) r = _; rw [show stepF 1 c = 3 from by simp [stepF, h0, h]]
        have e2 : rest (c :: r) = rest r := by simp [rest, h]
        rw [e1, run3]; simp [body, h0, some1, h, e2]
      · have e1 : runF 1 (c :: r) = -1 := by show runF (stepF 1 c) r = _; rw [show stepF 1 c = -1 from by simp [stepF, h0, h]]; exact dead r
        rw [e1]; simp [body, h0, some1, h, accB]

/-- THE LAW. -/
theorem run0 (l : List Int) : accB (runF 0 l) = num l := by
  cases l with
  | nil => rfl
  | cons c r =>
    by_cases hm : c = 45
    · have e1 : runF 0 (c :: r) = runF 1 r := by show runF (stepF 0 c) r = _; rw [show stepF 0 c = 1 from by simp [stepF, hm]]
      rw [e1, run1]; simp [num, hm]
    · have e0 : num (c :: r) = body (c :: r) := by simp [num, hm]
      rw [e0, ← run1]
      have e1 : stepF 0 c = stepF 1 c := by simp [stepF, hm]
      show accB (runF (stepF 0 c) r) = accB (runF (stepF 1 c) r)
      rw [e1]

end Go.Proofs.Qxb6606124a.Pl
