/-
  No cell of these rows narrows 'for every input' (looked for: loops, veiled, ifaces, maps, wideKeys, modest, calm, conditions, laid).
  DERIVED. THE GIVEN ROWS OF THIS SEAT. 2 by the template 'for every input the law returns true; each argument reads behind the call as it read before'; 0 by the template 'total and deterministic' (their statements: Qxb6002363aTotals.lean).
  GIVEN WITH THE SEED: the statements are not yours to turn. If you find one false, say at which input.
  Laid BY PROGRAM, IN A SANDBOX (cutbox-rows.mjs): the forced cells as the released guide's own fill.sh prints them over the translation e11fd39774e1e9cc… (all of the seat's roots in one cut). By AI agents, Wed Nov 11 2026. No macro, syntax, notation, axiom, sorry.
-/
import Derived.Test.Qxb6002363aChecked
import GoSem.Claim
import GoSem.ClaimJoined
import GoSem.ClaimMapViews
import Derived.JoinedTies
import Derived.KernelRfl
namespace Go.Proofs.Qxb6002363a
/- THE CELL 'sum', in the pinned program and in every row, IS THE sha256 OF THE DUMP (.gsa) THAT Qxb6002363aProg.lean LOADS. Nothing in Lean hashes anything: it is a label: what it is worth is what the hold of that sum in a sandbox is worth. -/
noncomputable def Try.pinned : Pinned := { name := "qxb6002363a", sum := "e11fd39774e1e9cca4ca0045a20bd151cd75dc2fba81d51c8c8cc5a462a13c68", checked := Try.checked }
namespace Rows
def none {H : Type} : Left H := { results := [], args := [] }

/-- 'zzlaws_internal_syntax_g1.FnQuotedRoundTrip': WHATEVER THE INPUT: true; the input reads as it did. -/
def fnQuotedRoundTripSpec : ChangeSpec := { name := "fnQuotedRoundTrip", fn := fun _ => fun
  | [d1, d2, d3] => { results := [.lit (.bool true)], args := [d1, d2, d3] }
  | _ => none }
def fnQuotedRoundTripRow : OpenClaim := { program := "qxb6002363a", sum := "e11fd39774e1e9cca4ca0045a20bd151cd75dc2fba81d51c8c8cc5a462a13c68", func := "example.com/dialecta/dialecta/zzlaws_internal_syntax_g1.FnQuotedRoundTrip", spec := "fnQuotedRoundTrip", inPlace := ["internal/bytealg.IndexByteString"], apart := false }
def FnQuotedRoundTripSaid : Prop := fnQuotedRoundTripRow.holds Try.pinned (OpenSpec.ofChange fnQuotedRoundTripSpec)

/-- ITS FALSE NEIGHBOUR: 'it returns false'. Refute it at one input. -/
def fnQuotedRoundTripWrong : ChangeSpec := { name := "fnQuotedRoundTrip", fn := fun _ => fun
  | [d1, d2, d3] => { results := [.lit (.bool false)], args := [d1, d2, d3] }
  | _ => none }
def FnQuotedRoundTripWrongFalsely : Prop := fnQuotedRoundTripRow.holds Try.pinned (OpenSpec.ofChange fnQuotedRoundTripWrong)

/-- 'zzlaws_internal_syntax_g1.FnQuotedAcceptsIffClosed': WHATEVER THE INPUT: true; the input reads as it did. -/
def fnQuotedAcceptsIffClosedSpec : ChangeSpec := { name := "fnQuotedAcceptsIffClosed", fn := fun _ => fun
  | [d1, d2] => { results := [.lit (.bool true)], args := [d1, d2] }
  | _ => none }
def fnQuotedAcceptsIffClosedRow : OpenClaim := { program := "qxb6002363a", sum := "e11fd39774e1e9cca4ca0045a20bd151cd75dc2fba81d51c8c8cc5a462a13c68", func := "example.com/dialecta/dialecta/zzlaws_internal_syntax_g1.FnQuotedAcceptsIffClosed", spec := "fnQuotedAcceptsIffClosed", inPlace := ["internal/bytealg.IndexByteString"], apart := false }
def FnQuotedAcceptsIffClosedSaid : Prop := fnQuotedAcceptsIffClosedRow.holds Try.pinned (OpenSpec.ofChange fnQuotedAcceptsIffClosedSpec)

/-- ITS FALSE NEIGHBOUR: 'it returns false'. Refute it at one input. -/
def fnQuotedAcceptsIffClosedWrong : ChangeSpec := { name := "fnQuotedAcceptsIffClosed", fn := fun _ => fun
  | [d1, d2] => { results := [.lit (.bool false)], args := [d1, d2] }
  | _ => none }
def FnQuotedAcceptsIffClosedWrongFalsely : Prop := fnQuotedAcceptsIffClosedRow.holds Try.pinned (OpenSpec.ofChange fnQuotedAcceptsIffClosedWrong)

end Rows
end Go.Proofs.Qxb6002363a
