/-
  No cell of these rows narrows 'for every input' (looked for: loops, veiled, ifaces, maps, wideKeys, modest, calm, conditions, laid).
  DERIVED. THE GIVEN ROWS OF THIS SEAT. 3 by the template 'for every input the law returns true; each argument reads behind the call as it read before'; 0 by the template 'total and deterministic' (their statements: Qxb6606124aTotals.lean).
  GIVEN WITH THE SEED: the statements are not yours to turn. If you find one false, say at which input.
  Laid BY PROGRAM, IN A SANDBOX (cutbox-rows.mjs): the forced cells as the released guide's own fill.sh prints them over the translation c4607894f13b46af… (all of the seat's roots in one cut). By AI agents, Wed Nov 11 2026. No macro, syntax, notation, axiom, sorry.
-/
import Derived.Test.Qxb6606124aChecked
import GoSem.Claim
import GoSem.ClaimJoined
import GoSem.ClaimMapViews
import Derived.JoinedTies
import Derived.KernelRfl
namespace Go.Proofs.Qxb6606124a
/- THE CELL 'sum', in the pinned program and in every row, IS THE sha256 OF THE DUMP (.gsa) THAT Qxb6606124aProg.lean LOADS. Nothing in Lean hashes anything: it is a label: what it is worth is what the hold of that sum in a sandbox is worth. -/
noncomputable def Try.pinned : Pinned := { name := "qxb6606124a", sum := "c4607894f13b46afb96594720a3d83e1d8438d1afe6e823fd85d547b5cc0cecd", checked := Try.checked }
namespace Rows
def none {H : Type} : Left H := { results := [], args := [] }

/-- 'zzlaws_dump_text_b1.FnIsJSONNumberMatchesAutomaton': WHATEVER THE INPUT: true; the input reads as it did. -/
def fnIsJSONNumberMatchesAutomatonSpec : ChangeSpec := { name := "fnIsJSONNumberMatchesAutomaton", fn := fun _ => fun
  | [d] => { results := [.lit (.bool true)], args := [d] }
  | _ => none }
def fnIsJSONNumberMatchesAutomatonRow : OpenClaim := { program := "qxb6606124a", sum := "c4607894f13b46afb96594720a3d83e1d8438d1afe6e823fd85d547b5cc0cecd", func := "example.com/berthwright/berthwright/zzlaws_dump_text_b1.FnIsJSONNumberMatchesAutomaton", spec := "fnIsJSONNumberMatchesAutomaton", unfollowed := true, recurses := true, apart := false }
def FnIsJSONNumberMatchesAutomatonSaid : Prop := fnIsJSONNumberMatchesAutomatonRow.holds Try.pinned (OpenSpec.ofChange fnIsJSONNumberMatchesAutomatonSpec)

/-- ITS FALSE NEIGHBOUR: 'it returns false'. Refute it at one input. -/
def fnIsJSONNumberMatchesAutomatonWrong : ChangeSpec := { name := "fnIsJSONNumberMatchesAutomaton", fn := fun _ => fun
  | [d] => { results := [.lit (.bool false)], args := [d] }
  | _ => none }
def FnIsJSONNumberMatchesAutomatonWrongFalsely : Prop := fnIsJSONNumberMatchesAutomatonRow.holds Try.pinned (OpenSpec.ofChange fnIsJSONNumberMatchesAutomatonWrong)

/-- 'zzlaws_dump_text_b1.FnIsJSONNumberTakesOneMinus': WHATEVER THE INPUT: true; the input reads as it did. -/
def fnIsJSONNumberTakesOneMinusSpec : ChangeSpec := { name := "fnIsJSONNumberTakesOneMinus", fn := fun _ => fun
  | [d] => { results := [.lit (.bool true)], args := [d] }
  | _ => none }
def fnIsJSONNumberTakesOneMinusRow : OpenClaim := { program := "qxb6606124a", sum := "c4607894f13b46afb96594720a3d83e1d8438d1afe6e823fd85d547b5cc0cecd", func := "example.com/berthwright/berthwright/zzlaws_dump_text_b1.FnIsJSONNumberTakesOneMinus", spec := "fnIsJSONNumberTakesOneMinus", unfollowed := true, recurses := true, apart := false }
def FnIsJSONNumberTakesOneMinusSaid : Prop := fnIsJSONNumberTakesOneMinusRow.holds Try.pinned (OpenSpec.ofChange fnIsJSONNumberTakesOneMinusSpec)

/-- ITS FALSE NEIGHBOUR: 'it returns false'. Refute it at one input. -/
def fnIsJSONNumberTakesOneMinusWrong : ChangeSpec := { name := "fnIsJSONNumberTakesOneMinus", fn := fun _ => fun
  | [d] => { results := [.lit (.bool false)], args := [d] }
  | _ => none }
def FnIsJSONNumberTakesOneMinusWrongFalsely : Prop := fnIsJSONNumberTakesOneMinusRow.holds Try.pinned (OpenSpec.ofChange fnIsJSONNumberTakesOneMinusWrong)

/-- 'zzlaws_dump_text_b1.FnIsJSONNumberTakesOneExponent': WHATEVER THE INPUT: true; the input reads as it did. -/
def fnIsJSONNumberTakesOneExponentSpec : ChangeSpec := { name := "fnIsJSONNumberTakesOneExponent", fn := fun _ => fun
  | [d] => { results := [.lit (.bool true)], args := [d] }
  | _ => none }
def fnIsJSONNumberTakesOneExponentRow : OpenClaim := { program := "qxb6606124a", sum := "c4607894f13b46afb96594720a3d83e1d8438d1afe6e823fd85d547b5cc0cecd", func := "example.com/berthwright/berthwright/zzlaws_dump_text_b1.FnIsJSONNumberTakesOneExponent", spec := "fnIsJSONNumberTakesOneExponent", unfollowed := true, recurses := true, apart := false }
def FnIsJSONNumberTakesOneExponentSaid : Prop := fnIsJSONNumberTakesOneExponentRow.holds Try.pinned (OpenSpec.ofChange fnIsJSONNumberTakesOneExponentSpec)

/-- ITS FALSE NEIGHBOUR: 'it returns false'. Refute it at one input. -/
def fnIsJSONNumberTakesOneExponentWrong : ChangeSpec := { name := "fnIsJSONNumberTakesOneExponent", fn := fun _ => fun
  | [d] => { results := [.lit (.bool false)], args := [d] }
  | _ => none }
def FnIsJSONNumberTakesOneExponentWrongFalsely : Prop := fnIsJSONNumberTakesOneExponentRow.holds Try.pinned (OpenSpec.ofChange fnIsJSONNumberTakesOneExponentWrong)

end Rows
end Go.Proofs.Qxb6606124a
