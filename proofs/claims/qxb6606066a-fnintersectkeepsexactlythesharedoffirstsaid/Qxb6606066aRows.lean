/-
  No cell of these rows narrows 'for every input' (looked for: loops, veiled, ifaces, maps, wideKeys, modest, calm, conditions, laid).
  DERIVED. THE GIVEN ROWS OF THIS SEAT. 4 by the template 'for every input the law returns true; each argument reads behind the call as it read before'; 0 by the template 'total and deterministic' (their statements: Qxb6606066aTotals.lean).
  GIVEN WITH THE SEED: the statements are not yours to turn. If you find one false, say at which input.
  Laid BY PROGRAM, IN A SANDBOX (cutbox-rows.mjs): the forced cells as the released guide's own fill.sh prints them over the translation 56aca303f3c3e494… (all of the seat's roots in one cut). By AI agents, Wed Nov 11 2026. No macro, syntax, notation, axiom, sorry.
-/
import Derived.Test.Qxb6606066aChecked
import GoSem.Claim
import GoSem.ClaimJoined
import GoSem.ClaimMapViews
import Derived.JoinedTies
import Derived.KernelRfl
namespace Go.Proofs.Qxb6606066a
/- THE CELL 'sum', in the pinned program and in every row, IS THE sha256 OF THE DUMP (.gsa) THAT Qxb6606066aProg.lean LOADS. Nothing in Lean hashes anything: it is a label: what it is worth is what the hold of that sum in a sandbox is worth. -/
noncomputable def Try.pinned : Pinned := { name := "qxb6606066a", sum := "56aca303f3c3e494a1a58a5a1713309e794a716c7765fc04ad8d2f97a89f97dd", checked := Try.checked }
namespace Rows
def none {H : Type} : Left H := { results := [], args := [] }

/-- 'zzlaws_internal_selector_b1.FnIntersectKeepsExactlyTheSharedOfFirst': WHATEVER THE INPUT: true; the input reads as it did. -/
def fnIntersectKeepsExactlyTheSharedOfFirstSpec : ChangeSpec := { name := "fnIntersectKeepsExactlyTheSharedOfFirst", fn := fun _ => fun
  | [d1, d2] => { results := [.lit (.bool true)], args := [d1, d2] }
  | _ => none }
def fnIntersectKeepsExactlyTheSharedOfFirstRow : OpenClaim := { program := "qxb6606066a", sum := "56aca303f3c3e494a1a58a5a1713309e794a716c7765fc04ad8d2f97a89f97dd", func := "example.com/chronolith/chronolith/zzlaws_internal_selector_b1.FnIntersectKeepsExactlyTheSharedOfFirst", spec := "fnIntersectKeepsExactlyTheSharedOfFirst", apart := false }
def FnIntersectKeepsExactlyTheSharedOfFirstSaid : Prop := fnIntersectKeepsExactlyTheSharedOfFirstRow.holds Try.pinned (OpenSpec.ofChange fnIntersectKeepsExactlyTheSharedOfFirstSpec)

/-- ITS FALSE NEIGHBOUR: 'it returns false'. Refute it at one input. -/
def fnIntersectKeepsExactlyTheSharedOfFirstWrong : ChangeSpec := { name := "fnIntersectKeepsExactlyTheSharedOfFirst", fn := fun _ => fun
  | [d1, d2] => { results := [.lit (.bool false)], args := [d1, d2] }
  | _ => none }
def FnIntersectKeepsExactlyTheSharedOfFirstWrongFalsely : Prop := fnIntersectKeepsExactlyTheSharedOfFirstRow.holds Try.pinned (OpenSpec.ofChange fnIntersectKeepsExactlyTheSharedOfFirstWrong)

/-- 'zzlaws_internal_selector_b1.FnIntersectIsSymmetric': WHATEVER THE INPUT: true; the input reads as it did. -/
def fnIntersectIsSymmetricSpec : ChangeSpec := { name := "fnIntersectIsSymmetric", fn := fun _ => fun
  | [d1, d2] => { results := [.lit (.bool true)], args := [d1, d2] }
  | _ => none }
def fnIntersectIsSymmetricRow : OpenClaim := { program := "qxb6606066a", sum := "56aca303f3c3e494a1a58a5a1713309e794a716c7765fc04ad8d2f97a89f97dd", func := "example.com/chronolith/chronolith/zzlaws_internal_selector_b1.FnIntersectIsSymmetric", spec := "fnIntersectIsSymmetric", apart := false }
def FnIntersectIsSymmetricSaid : Prop := fnIntersectIsSymmetricRow.holds Try.pinned (OpenSpec.ofChange fnIntersectIsSymmetricSpec)

/-- ITS FALSE NEIGHBOUR: 'it returns false'. Refute it at one input. -/
def fnIntersectIsSymmetricWrong : ChangeSpec := { name := "fnIntersectIsSymmetric", fn := fun _ => fun
  | [d1, d2] => { results := [.lit (.bool false)], args := [d1, d2] }
  | _ => none }
def FnIntersectIsSymmetricWrongFalsely : Prop := fnIntersectIsSymmetricRow.holds Try.pinned (OpenSpec.ofChange fnIntersectIsSymmetricWrong)

/-- 'zzlaws_internal_selector_b1.FnSubtractKeepsExactlyTheUnsharedOfFirst': WHATEVER THE INPUT: true; the input reads as it did. -/
def fnSubtractKeepsExactlyTheUnsharedOfFirstSpec : ChangeSpec := { name := "fnSubtractKeepsExactlyTheUnsharedOfFirst", fn := fun _ => fun
  | [d1, d2] => { results := [.lit (.bool true)], args := [d1, d2] }
  | _ => none }
def fnSubtractKeepsExactlyTheUnsharedOfFirstRow : OpenClaim := { program := "qxb6606066a", sum := "56aca303f3c3e494a1a58a5a1713309e794a716c7765fc04ad8d2f97a89f97dd", func := "example.com/chronolith/chronolith/zzlaws_internal_selector_b1.FnSubtractKeepsExactlyTheUnsharedOfFirst", spec := "fnSubtractKeepsExactlyTheUnsharedOfFirst", apart := false }
def FnSubtractKeepsExactlyTheUnsharedOfFirstSaid : Prop := fnSubtractKeepsExactlyTheUnsharedOfFirstRow.holds Try.pinned (OpenSpec.ofChange fnSubtractKeepsExactlyTheUnsharedOfFirstSpec)

/-- ITS FALSE NEIGHBOUR: 'it returns false'. Refute it at one input. -/
def fnSubtractKeepsExactlyTheUnsharedOfFirstWrong : ChangeSpec := { name := "fnSubtractKeepsExactlyTheUnsharedOfFirst", fn := fun _ => fun
  | [d1, d2] => { results := [.lit (.bool false)], args := [d1, d2] }
  | _ => none }
def FnSubtractKeepsExactlyTheUnsharedOfFirstWrongFalsely : Prop := fnSubtractKeepsExactlyTheUnsharedOfFirstRow.holds Try.pinned (OpenSpec.ofChange fnSubtractKeepsExactlyTheUnsharedOfFirstWrong)

/-- 'zzlaws_internal_selector_b1.FnSubtractAndIntersectSplitFirst': WHATEVER THE INPUT: true; the input reads as it did. -/
def fnSubtractAndIntersectSplitFirstSpec : ChangeSpec := { name := "fnSubtractAndIntersectSplitFirst", fn := fun _ => fun
  | [d1, d2] => { results := [.lit (.bool true)], args := [d1, d2] }
  | _ => none }
def fnSubtractAndIntersectSplitFirstRow : OpenClaim := { program := "qxb6606066a", sum := "56aca303f3c3e494a1a58a5a1713309e794a716c7765fc04ad8d2f97a89f97dd", func := "example.com/chronolith/chronolith/zzlaws_internal_selector_b1.FnSubtractAndIntersectSplitFirst", spec := "fnSubtractAndIntersectSplitFirst", apart := false }
def FnSubtractAndIntersectSplitFirstSaid : Prop := fnSubtractAndIntersectSplitFirstRow.holds Try.pinned (OpenSpec.ofChange fnSubtractAndIntersectSplitFirstSpec)

/-- ITS FALSE NEIGHBOUR: 'it returns false'. Refute it at one input. -/
def fnSubtractAndIntersectSplitFirstWrong : ChangeSpec := { name := "fnSubtractAndIntersectSplitFirst", fn := fun _ => fun
  | [d1, d2] => { results := [.lit (.bool false)], args := [d1, d2] }
  | _ => none }
def FnSubtractAndIntersectSplitFirstWrongFalsely : Prop := fnSubtractAndIntersectSplitFirstRow.holds Try.pinned (OpenSpec.ofChange fnSubtractAndIntersectSplitFirstWrong)

end Rows
end Go.Proofs.Qxb6606066a
