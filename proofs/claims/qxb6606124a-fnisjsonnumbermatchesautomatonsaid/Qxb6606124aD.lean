import Derived.Test.Qxb6606124aC
namespace Go.Proofs.Qxb6606124a.Wk
open Go.ChangeShapes Go.WideShapes Go.ChangeAt Go.RowKit
open Pl
set_option linter.unusedVariables false

/-! ### ZZIsJSONNumber -/
theorem zz_any (s : ByteArray) (w : World) (hs : s.size ≤ 1048576) :
    Calls Try.prog 7 #[.string s] w fun e w' => e = .returned (.bool (num (L s))) ∧ Below w.heap.size w w' := by
  have N := hid (num_any s w hs)
  generalize num (L s) = R at N ⊢
  go_enter Try.func7, Try.ntmps7
  go_wp2_with fail
  refine N.out.mono ?_
  rintro e w' ⟨rfl, hb⟩
  go_wp2
  go_ret
  exact ⟨rfl, hb⟩

/-! ### the law -/
theorem law_any (s : ByteArray) (w : World) (hm : s.size ≤ maxLen) :
    Calls Try.prog 3 #[.string s] w fun e w' => e = .returned (.bool true) ∧ Below w.heap.size w w' := by
  unfold maxLen at hm
  by_cases hs : s.size ≤ 1048576
  · have A : Hid (∀ w, Calls Try.prog 8 #[.string s] w fun e w' => e = .returned (.bool (num (L s))) ∧ w' = w) := fun w => by
      have := auto_any s w hs
      rw [run0] at this
      exact this
    have N := hid (fun w => zz_any s w hs)
    generalize num (L s) = R at A N
    go_enter Try.func3, Try.ntmps3
    go_wp2_with fail
    refine (bytes_yes s _ hs).mono ?_
    rintro e w1 ⟨rfl, hw⟩
    subst hw
    go_wp2_with fail
    refine (N.out _).mono ?_
    rintro e w2 ⟨rfl, hb⟩
    have B := hid hb
    clear hb
    go_wp2_with fail
    refine (A.out _).mono ?_
    rintro e w3 ⟨rfl, hw⟩
    subst hw
    go_wp2
    go_ret
    exact ⟨rfl, B.out⟩
  · go_enter Try.func3, Try.ntmps3
    go_wp2_with fail
    refine (bytes_no s _ (by omega)).mono ?_
    rintro e w1 ⟨rfl, hw⟩
    subst hw
    go_wp2
    go_ret
    exact ⟨rfl, Below.refl _ _⟩

end Go.Proofs.Qxb6606124a.Wk
