import Derived.Test.Qxb6605490aPatK
/-! Plain mathematics on lists of keys. -/
namespace Go.Proofs.Qxb6605490a.Pat
set_option linter.unusedVariables false

def d0 : Key := (0, [])
def at0 (ks : List Key) (i : Nat) : Key := ks.getD i d0

theorem at0_mem {ks : List Key} {i : Nat} (h : i < ks.length) : at0 ks i ∈ ks := by
  simp only [at0, List.getD, List.getElem?_eq_getElem h, Option.getD_some]
  exact List.getElem_mem h

theorem take_snoc {ks : List Key} {i : Nat} (h : i < ks.length) : ks.take (i + 1) = ks.take i ++ [at0 ks i] := by
  rw [List.take_succ_eq_append_getElem h]
  simp [at0, List.getD, h]

theorem mem_snoc {ks : List Key} {i : Nat} (h : i < ks.length) (x : Key) : x ∈ ks.take (i + 1) ↔ x ∈ ks.take i ∨ x = at0 ks i := by
  rw [take_snoc h]; simp

/-- The text lengths of the distinct keys of one kind, in the order of first occurrence, those in 'skip' left out. -/
def wl (ks : List Key) (kind : Int) (skip : Key → Bool) : Nat → List Int
  | 0 => []
  | i + 1 => wl ks kind skip i ++ if at0 ks i ∈ ks.take i then [] else if (at0 ks i).1 = kind ∧ skip (at0 ks i) = false then [((at0 ks i).2.length : Int)] else []

/-- How many distinct keys are there that 'old' does not hold of? -/
def cn (ks : List Key) (old : Key → Bool) : Nat → Nat
  | 0 => 0
  | i + 1 => cn ks old i + if at0 ks i ∈ ks.take i then 0 else if old (at0 ks i) = true then 0 else 1

theorem wl_seen {ks : List Key} {kind : Int} {skip : Key → Bool} {i : Nat} (h : at0 ks i ∈ ks.take i) : wl ks kind skip (i + 1) = wl ks kind skip i := by simp [wl, h]
theorem wl_skip {ks : List Key} {kind : Int} {skip : Key → Bool} {i : Nat} (h : skip (at0 ks i) = true) : wl ks kind skip (i + 1) = wl ks kind skip i := by simp [wl, h]
theorem wl_kind {ks : List Key} {kind : Int} {skip : Key → Bool} {i : Nat} (h : (at0 ks i).1 ≠ kind) : wl ks kind skip (i + 1) = wl ks kind skip i := by simp [wl, h]
theorem wl_new {ks : List Key} {kind : Int} {skip : Key → Bool} {i : Nat} (h : at0 ks i ∉ ks.take i) (h1 : (at0 ks i).1 = kind) (h2 : skip (at0 ks i) = false) : wl ks kind skip (i + 1) = wl ks kind skip i ++ [((at0 ks i).2.length : Int)] := by simp [wl, h, h1, h2]
theorem wl_len (ks : List Key) (kind : Int) (skip : Key → Bool) (i : Nat) : (wl ks kind skip i).length ≤ i := by
  induction i with
  | zero => simp [wl]
  | succ i ih =>
    simp only [wl, List.length_append]
    split
    · simp; omega
    · split <;> simp <;> omega

theorem cn_seen {ks : List Key} {old : Key → Bool} {i : Nat} (h : at0 ks i ∈ ks.take i) : cn ks old (i + 1) = cn ks old i := by simp [cn, h]
theorem cn_old {ks : List Key} {old : Key → Bool} {i : Nat} (h : old (at0 ks i) = true) : cn ks old (i + 1) = cn ks old i := by simp [cn, h]
theorem cn_new {ks : List Key} {old : Key → Bool} {i : Nat} (h : at0 ks i ∉ ks.take i) (h2 : old (at0 ks i) = false) : cn ks old (i + 1) = cn ks old i + 1 := by simp [cn, h, h2]
theorem cn_le (ks : List Key) (old : Key → Bool) (i : Nat) : cn ks old i ≤ i := by
  induction i with
  | zero => simp [cn]
  | succ i ih => simp only [cn]; split <;> (try split) <;> omega

/-- Does the list end in p? -/
def ends (l : List Int) (p : Int) : Bool := l.getLast? == some p

theorem ends_nil (p : Int) : ends [] p = false := rfl
theorem ends_snoc (l : List Int) (p : Int) : ends (l ++ [p]) p = true := by simp [ends]
theorem ends_get {l : List Int} (h : 0 < l.length) (p : Int) : ends l p = (l.getD (l.length - 1) 0 == p) := by
  have e : l.getLast? = some (l.getD (l.length - 1) 0) := by
    rw [List.getLast?_eq_getElem?]
    simp [List.getD, List.getElem?_eq_getElem (show l.length - 1 < l.length by omega)]
  rw [ends, e]
  simp

/-- What add leaves at each key, behind i of its patterns. -/
def addP (P0 : Key → List Int) (p : Int) (ks : List Key) (i : Nat) : Key → List Int := fun x => if x ∈ ks.take i ∧ ends (P0 x) p = false then P0 x ++ [p] else P0 x
def addQ (Q0 : Key → Bool) (ks : List Key) (i : Nat) : Key → Bool := fun x => Q0 x || decide (x ∈ ks.take i)

theorem addP_zero (P0 : Key → List Int) (p : Int) (ks : List Key) : addP P0 p ks 0 = P0 := by funext x; simp [addP]
theorem addQ_zero (Q0 : Key → Bool) (ks : List Key) : addQ Q0 ks 0 = Q0 := by funext x; simp [addQ]

/-- The key ends in this place already: nothing turns. -/
theorem add_skip {P0 : Key → List Int} {Q0 : Key → Bool} {p : Int} {ks : List Key} {i : Nat} (hi : i < ks.length) (hPQ : ∀ x, P0 x ≠ [] → Q0 x = true) (h : ends (addP P0 p ks i (at0 ks i)) p = true) :
    addP P0 p ks (i + 1) = addP P0 p ks i ∧ addQ Q0 ks (i + 1) = addQ Q0 ks i ∧ cn ks Q0 (i + 1) = cn ks Q0 i ∧ ∀ kind, wl ks kind (fun x => ends (P0 x) p) (i + 1) = wl ks kind (fun x => ends (P0 x) p) i := by
  by_cases hin : at0 ks i ∈ ks.take i
  · have e : ∀ x, (x ∈ ks.take (i + 1)) = (x ∈ ks.take i) := fun x => by
      rw [mem_snoc hi]
      exact propext ⟨fun h => h.elim id (fun e => e ▸ hin), Or.inl⟩
    exact ⟨by funext x; simp [addP, e], by funext x; simp [addQ, e], cn_seen hin, fun kind => wl_seen hin⟩
  · have hs : ends (P0 (at0 ks i)) p = true := by simpa [addP, hin] using h
    have hq : Q0 (at0 ks i) = true := hPQ _ (fun e => by rw [e, ends_nil] at hs; cases hs)
    refine ⟨?_, ?_, cn_old hq, fun kind => wl_skip hs⟩
    · funext x
      by_cases ex : x = at0 ks i
      · subst ex; simp [addP, hs]
      · simp [addP, mem_snoc hi, ex]
    · funext x
      by_cases ex : x = at0 ks i
      · subst ex; simp [addQ, hq]
      · simp [addQ, mem_snoc hi, ex]

/-- It does not: the place is put behind. -/
theorem add_new {P0 : Key → List Int} {Q0 : Key → Bool} {p : Int} {ks : List Key} {i : Nat} (hi : i < ks.length) (h : ends (addP P0 p ks i (at0 ks i)) p = false) :
    addP P0 p ks (i + 1) = (fun x => if x = at0 ks i then addP P0 p ks i (at0 ks i) ++ [p] else addP P0 p ks i x) ∧ addQ Q0 ks (i + 1) = (fun x => if x = at0 ks i then true else addQ Q0 ks i x) ∧
      (∀ z, (if addQ Q0 ks i (at0 ks i) = true then z + cn ks Q0 i else z + cn ks Q0 i + 1) = z + cn ks Q0 (i + 1)) ∧
      (∀ kind, (at0 ks i).1 = kind → wl ks kind (fun x => ends (P0 x) p) (i + 1) = wl ks kind (fun x => ends (P0 x) p) i ++ [((at0 ks i).2.length : Int)]) := by
  have hin : at0 ks i ∉ ks.take i := fun hin => by
    by_cases hs : ends (P0 (at0 ks i)) p = true
    · simp [addP, hs] at h
    · simp [addP, hin, hs, ends_snoc] at h
  have hs : ends (P0 (at0 ks i)) p = false := by simpa [addP, hin] using h
  refine ⟨?_, ?_, fun z => ?_, fun kind hk => wl_new hin hk hs⟩
  · funext x
    by_cases ex : x = at0 ks i
    · subst ex; simp [addP, mem_snoc hi, hs, hin]
    · simp [addP, mem_snoc hi, ex]
  · funext x
    by_cases ex : x = at0 ks i
    · subst ex; simp [addQ, mem_snoc hi]
    · simp [addQ, mem_snoc hi, ex]
  · have e : addQ Q0 ks i (at0 ks i) = Q0 (at0 ks i) := by simp [addQ, hin]
    rw [e]
    cases hq : Q0 (at0 ks i)
    · rw [cn_new hin hq]; simp; omega
    · rw [cn_old hq]; simp

/-- The places that the law wants. -/
def want (i1 i2 : Bool) (p1 p2 : Int) : List Int := (if i1 = true then [p1] else []) ++ (if i2 = true ∧ ¬ (i1 = true ∧ p1 = p2) then [p2] else [])

/-- Two adds leave just those. -/
theorem two_adds (K1 K2 : List Key) (p1 p2 : Int) (x : Key) :
    addP (addP (fun _ => []) p1 K1 K1.length) p2 K2 K2.length x = want (decide (x ∈ K1)) (decide (x ∈ K2)) p1 p2 := by
  have e1 : addP (fun _ => []) p1 K1 K1.length x = if x ∈ K1 then [p1] else [] := by simp [addP, ends_nil]
  unfold addP want
  rw [show (if x ∈ List.take K1.length K1 ∧ ends [] p1 = false then [] ++ [p1] else []) = (if x ∈ K1 then [p1] else []) from by simp [ends_nil]]
  by_cases h1 : x ∈ K1 <;> by_cases h2 : x ∈ K2 <;> by_cases hp : p1 = p2 <;> simp [h1, h2, hp, ends]

end Go.Proofs.Qxb6605490a.Pat
