import Derived.Test.Qxb6606066aRows
/-! Plain mathematics: lists of integers; no Go in sight. -/
namespace Go.Proofs.Qxb6606066a.Pl
set_option linter.unusedVariables false

/-- Strictly ascending, by index. -/
def Asc (zs : List Int) : Prop := ∀ i j, i < j → j < zs.length → zs.getD i 0 < zs.getD j 0

/-- Ascending as far as the first k. -/
def AscTo (zs : List Int) (k : Nat) : Prop := ∀ i, i + 1 < k → zs.getD i 0 < zs.getD (i + 1) 0

theorem asc_of_to {zs : List Int} (h : AscTo zs zs.length) : Asc zs := by
  intro i j hij
  induction j with
  | zero => omega
  | succ j ih =>
    intro hj
    by_cases e : i = j
    · subst e; exact h i (by omega)
    · exact Int.lt_trans (ih (by omega) (by omega)) (h j (by omega))

def mem (B : List Int) (x : Int) : Bool := decide (x ∈ B)

theorem mem_iff {B : List Int} {x : Int} : mem B x = true ↔ ∃ m, m < B.length ∧ B.getD m 0 = x := by
  unfold mem
  rw [decide_eq_true_iff, List.mem_iff_getElem]
  constructor
  · rintro ⟨m, hm, rfl⟩
    exact ⟨m, hm, by simp [List.getD, hm]⟩
  · rintro ⟨m, hm, rfl⟩
    exact ⟨m, hm, by simp [List.getD, hm]⟩

theorem mem_false {B : List Int} {x : Int} (h : ∀ m, m < B.length → B.getD m 0 ≠ x) : mem B x = false := by
  cases hb : mem B x
  · rfl
  · obtain ⟨m, hm, e⟩ := mem_iff.1 hb
    exact absurd e (h m hm)

theorem take_snoc (A : List Int) (k : Nat) (h : k < A.length) : A.take (k + 1) = A.take k ++ [A.getD k 0] := by
  rw [List.take_succ_eq_append_getElem h]
  simp [List.getD, h]

theorem filter_hit (A : List Int) (p : Int → Bool) (k : Nat) (h : k < A.length) (hp : p (A.getD k 0) = true) : (A.take (k + 1)).filter p = (A.take k).filter p ++ [A.getD k 0] := by
  rw [take_snoc A k h, List.filter_append, List.filter_cons_of_pos hp, List.filter_nil]

theorem filter_miss (A : List Int) (p : Int → Bool) (k : Nat) (h : k < A.length) (hp : p (A.getD k 0) = false) : (A.take (k + 1)).filter p = (A.take k).filter p := by
  rw [take_snoc A k h, List.filter_append, List.filter_cons_of_neg (by rw [hp]; simp), List.filter_nil, List.append_nil]

theorem filter_len (A : List Int) (p : Int → Bool) (k : Nat) : ((A.take k).filter p).length ≤ k := by
  have h1 := List.length_filter_le p (A.take k)
  have h2 := List.length_take_le k A
  omega

/-- All that of B lies ahead of j is below all that of A lies from i on. -/
def Behind (A B : List Int) (i j : Nat) : Prop := ∀ m l, m < j → i ≤ l → l < A.length → B.getD m 0 < A.getD l 0

theorem behind_zero (A B : List Int) (i : Nat) : Behind A B i 0 := fun m l h => by omega
theorem Behind.up {A B : List Int} {i j : Nat} (h : Behind A B i j) (i' : Nat) (hi : i ≤ i') : Behind A B i' j := fun m l h1 h2 h3 => h m l h1 (by omega) h3
theorem Behind.next {A B : List Int} {i j : Nat} (h : Behind A B i j) (hj : ∀ l, i ≤ l → l < A.length → B.getD j 0 < A.getD l 0) : Behind A B i (j + 1) := by
  intro m l h1 h2 h3
  by_cases e : m = j
  · subst e; exact hj l h2 h3
  · exact h m l (by omega) h2 h3

theorem asc_le {A : List Int} (hA : Asc A) {i l : Nat} (h : i ≤ l) (hl : l < A.length) : A.getD i 0 ≤ A.getD l 0 := by
  by_cases e : i = l
  · subst e; exact Int.le_refl _
  · exact Int.le_of_lt (hA i l (by omega) hl)

/-- a[i] < b[j]: b does not hold a[i]. -/
theorem not_held {A B : List Int} (hB : Asc B) {i j : Nat} (h : Behind A B i j) (hi : i < A.length) (hlt : j < B.length → A.getD i 0 < B.getD j 0) : mem B (A.getD i 0) = false := by
  refine mem_false fun m hm e => ?_
  by_cases hmj : m < j
  · have := h m i hmj (Nat.le_refl _) hi; omega
  · have h1 := hlt (by omega)
    have := asc_le hB (i := j) (l := m) (by omega) hm
    omega

theorem held {A B : List Int} {i j : Nat} (hj : j < B.length) (e : A.getD i 0 = B.getD j 0) : mem B (A.getD i 0) = true := mem_iff.2 ⟨j, hj, e.symm⟩

/-- Where b is spent the rest of a is not held. -/
theorem rest_not {A B : List Int} {i : Nat} (h : Behind A B i B.length) (l : Nat) (hi : i ≤ l) (hl : l < A.length) : mem B (A.getD l 0) = false := by
  refine mem_false fun m hm e => ?_
  have := h m l hm hi hl
  omega

theorem filter_rest (A : List Int) (p : Int → Bool) (i k : Nat) (hk : i + k ≤ A.length) (h : ∀ l, i ≤ l → l < i + k → p (A.getD l 0) = false) : (A.take (i + k)).filter p = (A.take i).filter p := by
  induction k with
  | zero => rfl
  | succ k ih =>
    rw [← Nat.add_assoc, filter_miss A p (i + k) (by omega) (h _ (by omega) (by omega))]
    exact ih (by omega) (fun l h1 h2 => h l h1 (by omega))

theorem inter_done {A B : List Int} {i j : Nat} (h : Behind A B i j) (hi : i ≤ A.length) (hd : A.length ≤ i ∨ B.length ≤ j) : (A.take i).filter (mem B) = A.filter (mem B) := by
  by_cases e : i = A.length
  · subst e; rw [List.take_length]
  · have hj : B.length ≤ j := by omega
    have h' : Behind A B i B.length := fun m l h1 => h m l (by omega)
    have := filter_rest A (mem B) i (A.length - i) (by omega) (fun l h1 h2 => rest_not h' l h1 (by omega))
    rw [← this, show i + (A.length - i) = A.length from by omega, List.take_length]

/-! ### what stands where in a filtered list -/
theorem drop_cons (A : List Int) (k : Nat) (h : k < A.length) : A.drop k = A.getD k 0 :: A.drop (k + 1) := by
  rw [List.drop_eq_getElem_cons h]
  simp [List.getD, h]

theorem split_filter (A : List Int) (p : Int → Bool) (k : Nat) : A.filter p = (A.take k).filter p ++ (A.drop k).filter p := by
  rw [← List.filter_append, List.take_append_drop]

/-- The next element of A, where it is kept: it stands at the head of what is left. -/
theorem at_hit (A : List Int) (p : Int → Bool) (k : Nat) (h : k < A.length) (hp : p (A.getD k 0) = true) :
    ((A.take k).filter p).length < (A.filter p).length ∧ (A.filter p).getD ((A.take k).filter p).length 0 = A.getD k 0 := by
  have e : A.filter p = (A.take k).filter p ++ (A.getD k 0 :: (A.drop (k + 1)).filter p) := by
    rw [split_filter A p k, drop_cons A k h, List.filter_cons_of_pos hp]
  rw [e]
  refine ⟨by simp, ?_⟩
  simp [List.getD]

/-- .. where it is not kept: whatever is left that is kept lies above it. -/
theorem at_miss (A : List Int) (hA : Asc A) (p : Int → Bool) (k : Nat) (h : k < A.length) (hp : p (A.getD k 0) = false) (hlt : ((A.take k).filter p).length < (A.filter p).length) :
    A.getD k 0 < (A.filter p).getD ((A.take k).filter p).length 0 := by
  have e : A.filter p = (A.take k).filter p ++ (A.drop (k + 1)).filter p := by
    rw [split_filter A p k, drop_cons A k h, List.filter_cons_of_neg (by rw [hp]; simp)]
  rw [e] at hlt ⊢
  have hne : 0 < ((A.drop (k + 1)).filter p).length := by simp at hlt ⊢; omega
  have hin : ((A.drop (k + 1)).filter p).getD 0 0 ∈ A.drop (k + 1) := by
    have : ((A.drop (k + 1)).filter p).getD 0 0 ∈ (A.drop (k + 1)).filter p := by
      simp only [List.getD, List.getElem?_eq_getElem hne, Option.getD_some]
      exact List.getElem_mem _
    exact (List.mem_filter.1 this).1
  obtain ⟨m, hm, hme⟩ := List.mem_iff_getElem.1 hin
  have e2 : ((A.take k).filter p ++ (A.drop (k + 1)).filter p).getD ((A.take k).filter p).length 0 = ((A.drop (k + 1)).filter p).getD 0 0 := by
    simp only [List.getD]
    rw [List.getElem?_append_right (Nat.le_refl _), Nat.sub_self]
  rw [e2, ← hme]
  simp at hm
  have := hA k (k + 1 + m) (by omega) (by omega)
  simpa [List.getD, show k + 1 + m < A.length by omega] using this

theorem take_full {A : List Int} {k : Nat} (p : Int → Bool) (h : A.length ≤ k) : (A.take k).filter p = A.filter p := by rw [List.take_of_length_le h]

/-- Of the first k elements those that are held and those that are not: together k. -/
theorem count_two (A B : List Int) (k : Nat) (h : k ≤ A.length) : ((A.take k).filter (mem B)).length + ((A.take k).filter (fun x => !mem B x)).length = k := by
  induction k with
  | zero => rfl
  | succ k ih =>
    have := ih (by omega)
    by_cases hm : mem B (A.getD k 0) = true
    · rw [filter_hit A (mem B) k (by omega) hm, filter_miss A (fun x => !mem B x) k (by omega) (by rw [hm]; rfl)]
      simp; omega
    · rw [filter_miss A (mem B) k (by omega) (by simpa using hm), filter_hit A (fun x => !mem B x) k (by omega) (by simpa using hm)]
      simp; omega

end Go.Proofs.Qxb6606066a.Pl
