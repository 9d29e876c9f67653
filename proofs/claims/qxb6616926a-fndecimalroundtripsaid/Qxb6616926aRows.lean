/-
  No cell of these rows narrows 'for every input' (looked for: loops, veiled, ifaces, maps, wideKeys, modest, calm, conditions, laid).
  DERIVED. THE GIVEN ROWS OF THIS SEAT. 1 by the template 'for every input the law returns true; each argument reads behind the call as it read before'; 0 by the template 'total and deterministic' (their statements: Qxb6616926aTotals.lean).
  GIVEN WITH THE SEED: the statements are not yours to turn. If you find one false, say at which input.
  Laid BY PROGRAM, IN A SANDBOX (cutbox-rows.mjs): the forced cells as the released guide's own fill.sh prints them over the translation 0895c2156c0ac26f… (all of the seat's roots in one cut). By AI agents, Wed Nov 11 2026. No macro, syntax, notation, axiom, sorry.
-/
import Derived.Test.Qxb6616926aChecked
import GoSem.Claim
import GoSem.ClaimJoined
import GoSem.ClaimMapViews
import Derived.JoinedTies
import Derived.KernelRfl
namespace Go.Proofs.Qxb6616926a
/- THE CELL 'sum', in the pinned program and in every row, IS THE sha256 OF THE DUMP (.gsa) THAT Qxb6616926aProg.lean LOADS. Nothing in Lean hashes anything: it is a label: what it is worth is what the hold of that sum in a sandbox is worth. -/
noncomputable def Try.pinned : Pinned := { name := "qxb6616926a", sum := "0895c2156c0ac26fb40e15c548e336e75a7d253b69f662f77d5e17a22840d350", checked := Try.checked }
namespace Rows
def none {H : Type} : Left H := { results := [], args := [] }

/-- 'zzlaws_internal_number_b1.FnDecimalRoundTrip': WHATEVER THE INPUT: true; the input reads as it did. -/
def fnDecimalRoundTripSpec : ChangeSpec := { name := "fnDecimalRoundTrip", fn := fun _ => fun
  | [d1, d2] => { results := [.lit (.bool true)], args := [d1, d2] }
  | _ => none }
def fnDecimalRoundTripRow : OpenClaim := { program := "qxb6616926a", sum := "0895c2156c0ac26fb40e15c548e336e75a7d253b69f662f77d5e17a22840d350", func := "example.com/fuelpeg/fuelpeg/zzlaws_internal_number_b1.FnDecimalRoundTrip", spec := "fnDecimalRoundTrip", apart := false }
def FnDecimalRoundTripSaid : Prop := fnDecimalRoundTripRow.holds Try.pinned (OpenSpec.ofChange fnDecimalRoundTripSpec)

/-- ITS FALSE NEIGHBOUR: 'it returns false'. Refute it at one input. -/
def fnDecimalRoundTripWrong : ChangeSpec := { name := "fnDecimalRoundTrip", fn := fun _ => fun
  | [d1, d2] => { results := [.lit (.bool false)], args := [d1, d2] }
  | _ => none }
def FnDecimalRoundTripWrongFalsely : Prop := fnDecimalRoundTripRow.holds Try.pinned (OpenSpec.ofChange fnDecimalRoundTripWrong)

end Rows
end Go.Proofs.Qxb6616926a
