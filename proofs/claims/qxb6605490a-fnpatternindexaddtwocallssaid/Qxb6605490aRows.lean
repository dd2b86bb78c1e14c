/-
  No cell of these rows narrows 'for every input' (looked for: loops, veiled, ifaces, maps, wideKeys, modest, calm, conditions, laid).
  DERIVED. THE GIVEN ROWS OF THIS SEAT. 2 by the template 'for every input the law returns true; each argument reads behind the call as it read before'; 0 by the template 'total and deterministic' (their statements: Qxb6605490aTotals.lean).
  GIVEN WITH THE SEED: the statements are not yours to turn. If you find one false, say at which input.
  Laid BY PROGRAM, IN A SANDBOX (cutbox-rows.mjs): the forced cells as the released guide's own fill.sh prints them over the translation 276f29a9ecc68e0f… (all of the seat's roots in one cut). By AI agents, Wed Nov 11 2026. No macro, syntax, notation, axiom, sorry.
-/
import Derived.Test.Qxb6605490aChecked
import GoSem.Claim
import GoSem.ClaimJoined
import GoSem.ClaimMapViews
import Derived.JoinedTies
import Derived.KernelRfl
namespace Go.Proofs.Qxb6605490a
/- THE CELL 'sum', in the pinned program and in every row, IS THE sha256 OF THE DUMP (.gsa) THAT Qxb6605490aProg.lean LOADS. Nothing in Lean hashes anything: it is a label: what it is worth is what the hold of that sum in a sandbox is worth. -/
noncomputable def Try.pinned : Pinned := { name := "qxb6605490a", sum := "276f29a9ecc68e0f81b8150be378d53320fcbe6ab8e354033b429af65ded7d0f", checked := Try.checked }
namespace Rows
def none {H : Type} : Left H := { results := [], args := [] }

/-- 'zzlaws_internal_policy_b1.FnPatternIndexAddTwoCalls': WHATEVER THE INPUT: true; the input reads as it did. -/
def fnPatternIndexAddTwoCallsSpec : ChangeSpec := { name := "fnPatternIndexAddTwoCalls", fn := fun _ => fun
  | [d1, d2, d3, d4, d5, d6] => { results := [.lit (.bool true)], args := [d1, d2, d3, d4, d5, d6] }
  | _ => none }
def fnPatternIndexAddTwoCallsRow : OpenClaim := { program := "qxb6605490a", sum := "276f29a9ecc68e0f81b8150be378d53320fcbe6ab8e354033b429af65ded7d0f", func := "example.com/brama/brama/zzlaws_internal_policy_b1.FnPatternIndexAddTwoCalls", spec := "fnPatternIndexAddTwoCalls", plainKeys := false, apart := false }
def FnPatternIndexAddTwoCallsSaid : Prop := fnPatternIndexAddTwoCallsRow.holds Try.pinned (OpenSpec.ofChange fnPatternIndexAddTwoCallsSpec)

/-- ITS FALSE NEIGHBOUR: 'it returns false'. Refute it at one input. -/
def fnPatternIndexAddTwoCallsWrong : ChangeSpec := { name := "fnPatternIndexAddTwoCalls", fn := fun _ => fun
  | [d1, d2, d3, d4, d5, d6] => { results := [.lit (.bool false)], args := [d1, d2, d3, d4, d5, d6] }
  | _ => none }
def FnPatternIndexAddTwoCallsWrongFalsely : Prop := fnPatternIndexAddTwoCallsRow.holds Try.pinned (OpenSpec.ofChange fnPatternIndexAddTwoCallsWrong)

/-- 'zzlaws_internal_policy_b1.FnLexerSkipSpaceExact': WHATEVER THE INPUT: true; the input reads as it did. -/
def fnLexerSkipSpaceExactSpec : ChangeSpec := { name := "fnLexerSkipSpaceExact", fn := fun _ => fun
  | [d1, d2, d3, d4] => { results := [.lit (.bool true)], args := [d1, d2, d3, d4] }
  | _ => none }
def fnLexerSkipSpaceExactRow : OpenClaim := { program := "qxb6605490a", sum := "276f29a9ecc68e0f81b8150be378d53320fcbe6ab8e354033b429af65ded7d0f", func := "example.com/brama/brama/zzlaws_internal_policy_b1.FnLexerSkipSpaceExact", spec := "fnLexerSkipSpaceExact", plainKeys := false, apart := false }
def FnLexerSkipSpaceExactSaid : Prop := fnLexerSkipSpaceExactRow.holds Try.pinned (OpenSpec.ofChange fnLexerSkipSpaceExactSpec)

/-- ITS FALSE NEIGHBOUR: 'it returns false'. Refute it at one input. -/
def fnLexerSkipSpaceExactWrong : ChangeSpec := { name := "fnLexerSkipSpaceExact", fn := fun _ => fun
  | [d1, d2, d3, d4] => { results := [.lit (.bool false)], args := [d1, d2, d3, d4] }
  | _ => none }
def FnLexerSkipSpaceExactWrongFalsely : Prop := fnLexerSkipSpaceExactRow.holds Try.pinned (OpenSpec.ofChange fnLexerSkipSpaceExactWrong)

end Rows
end Go.Proofs.Qxb6605490a
