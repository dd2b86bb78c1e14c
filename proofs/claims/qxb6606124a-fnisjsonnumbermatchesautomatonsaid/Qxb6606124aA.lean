import Derived.Test.Qxb6606124aRows
import Derived.Test.Qxb6606124aPlain
import Derived.WalkKit
import Derived.ProofKit
import Derived.Below
import Derived.OpenShut
import Derived.WalkSpells
import Derived.WalkLawsBesides
import Derived.Deep.LoopGhost
import Derived.Deep.CutRange
namespace Go.Proofs.Qxb6606124a.Wk
open Go.ChangeShapes Go.WideShapes Go.ChangeAt Go.RowKit
open Pl
set_option linter.unusedVariables false

theorem hid {p : Prop} (h : p) : Hid p := h

theorem ret_int {k : IntKind} {a b : Int} (h : a = b) : Ending.returned (.int k a) = .returned (.int k b) := by rw [h]
theorem ret_bool {a b : Bool} (h : a = b) : Ending.returned (.bool a) = .returned (.bool b) := by rw [h]

set_option maxHeartbeats 4000000 in
theorem step_any (st c : Int) (w : World) (h0 : 0 ≤ st) (h8 : st ≤ 8) :
    Calls Try.prog 12 #[.int .i64 st, .int .u8 c] w fun e w' => e = .returned (.int .i64 (stepF st c)) ∧ w' = w := by
  go_enter Try.func12, Try.ntmps12
  go_wp2
  all_goals
    go_ret
    refine ⟨ret_int ?_, rfl⟩
    simp only [beq_iff_eq, beq_eq_false_iff_ne, ne_eq] at *
    simp only [stepF, dig, isE, isSg, Bool.and_eq_true, Bool.or_eq_true, decide_eq_true_eq, beq_iff_eq]
    (repeat' split) <;> first | omega | (exfalso; simp_all; done)

end Go.Proofs.Qxb6606124a.Wk
