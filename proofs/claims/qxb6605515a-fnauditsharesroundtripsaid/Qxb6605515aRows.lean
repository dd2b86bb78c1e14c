/-
  No cell of these rows narrows 'for every input' (looked for: loops, veiled, ifaces, maps, wideKeys, modest, calm, conditions, laid).
  DERIVED. THE GIVEN ROWS OF THIS SEAT. 1 by the template 'for every input the law returns true; each argument reads behind the call as it read before'; 0 by the template 'total and deterministic' (their statements: Qxb6605515aTotals.lean).
  GIVEN WITH THE SEED: the statements are not yours to turn. If you find one false, say at which input.
  Laid BY PROGRAM, IN A SANDBOX (cutbox-rows.mjs): the forced cells as the released guide's own fill.sh prints them over the translation 46193af2a6772925… (all of the seat's roots in one cut). By AI agents, Wed Nov 11 2026. No macro, syntax, notation, axiom, sorry.
-/
import Derived.Test.Qxb6605515aChecked
import GoSem.Claim
import GoSem.ClaimJoined
import GoSem.ClaimMapViews
import Derived.JoinedTies
import Derived.KernelRfl
namespace Go.Proofs.Qxb6605515a
/- THE CELL 'sum', in the pinned program and in every row, IS THE sha256 OF THE DUMP (.gsa) THAT Qxb6605515aProg.lean LOADS. Nothing in Lean hashes anything: it is a label: what it is worth is what the hold of that sum in a sandbox is worth. -/
noncomputable def Try.pinned : Pinned := { name := "qxb6605515a", sum := "46193af2a6772925af4a133cec07eb1310ba9b9f9444b391e12019ead4b0006c", checked := Try.checked }
namespace Rows
def none {H : Type} : Left H := { results := [], args := [] }

/-- 'zzlaws_pkg_store_b1.FnAuditSharesRoundTrip': WHATEVER THE INPUT: true; the input reads as it did. -/
def fnAuditSharesRoundTripSpec : ChangeSpec := { name := "fnAuditSharesRoundTrip", fn := fun _ => fun
  | [d1, d2, d3, d4] => { results := [.lit (.bool true)], args := [d1, d2, d3, d4] }
  | _ => none }
def fnAuditSharesRoundTripRow : OpenClaim := { program := "qxb6605515a", sum := "46193af2a6772925af4a133cec07eb1310ba9b9f9444b391e12019ead4b0006c", func := "example.com/partage/partage/zzlaws_pkg_store_b1.FnAuditSharesRoundTrip", spec := "fnAuditSharesRoundTrip", apart := false }
def FnAuditSharesRoundTripSaid : Prop := fnAuditSharesRoundTripRow.holds Try.pinned (OpenSpec.ofChange fnAuditSharesRoundTripSpec)

/-- ITS FALSE NEIGHBOUR: 'it returns false'. Refute it at one input. -/
def fnAuditSharesRoundTripWrong : ChangeSpec := { name := "fnAuditSharesRoundTrip", fn := fun _ => fun
  | [d1, d2, d3, d4] => { results := [.lit (.bool false)], args := [d1, d2, d3, d4] }
  | _ => none }
def FnAuditSharesRoundTripWrongFalsely : Prop := fnAuditSharesRoundTripRow.holds Try.pinned (OpenSpec.ofChange fnAuditSharesRoundTripWrong)

end Rows
end Go.Proofs.Qxb6605515a
