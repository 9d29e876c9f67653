/-
  No cell of these rows narrows 'for every input' (looked for: loops, veiled, ifaces, maps, wideKeys, modest, calm, conditions, laid).
  DERIVED. THE GIVEN ROWS OF THIS SEAT. 2 by the template 'for every input the law returns true; each argument reads behind the call as it read before'; 0 by the template 'total and deterministic' (their statements: Qxb6616510aTotals.lean).
  GIVEN WITH THE SEED: the statements are not yours to turn. If you find one false, say at which input.
  Laid BY PROGRAM, IN A SANDBOX (cutbox-rows.mjs): the forced cells as the released guide's own fill.sh prints them over the translation 94e98a05fb27c368… (all of the seat's roots in one cut). By AI agents, Wed Nov 11 2026. No macro, syntax, notation, axiom, sorry.
-/
import Derived.Test.Qxb6616510aChecked
import GoSem.Claim
import GoSem.ClaimJoined
import GoSem.ClaimMapViews
import Derived.JoinedTies
import Derived.KernelRfl
namespace Go.Proofs.Qxb6616510a
/- THE CELL 'sum', in the pinned program and in every row, IS THE sha256 OF THE DUMP (.gsa) THAT Qxb6616510aProg.lean LOADS. Nothing in Lean hashes anything: it is a label: what it is worth is what the hold of that sum in a sandbox is worth. -/
noncomputable def Try.pinned : Pinned := { name := "qxb6616510a", sum := "94e98a05fb27c368e0ca99606155e2a1ece98e37cd673c91e130b97a14b44d39", checked := Try.checked }
namespace Rows
def none {H : Type} : Left H := { results := [], args := [] }

/-- 'zzlaws_pkg_issuance_b1.FnFaultAccountRulesFirstBondRulesIgnoreAccount': WHATEVER THE INPUT: true; the input reads as it did. -/
def fnFaultAccountRulesFirstBondRulesIgnoreAccountSpec : ChangeSpec := { name := "fnFaultAccountRulesFirstBondRulesIgnoreAccount", fn := fun _ => fun
  | [d1, d2, d3, d4, d5, d6, d7, d8, d9, d10] => { results := [.lit (.bool true)], args := [d1, d2, d3, d4, d5, d6, d7, d8, d9, d10] }
  | _ => none }
def fnFaultAccountRulesFirstBondRulesIgnoreAccountRow : OpenClaim := { program := "qxb6616510a", sum := "94e98a05fb27c368e0ca99606155e2a1ece98e37cd673c91e130b97a14b44d39", func := "example.com/zhuangu/zhuangu/zzlaws_pkg_issuance_b1.FnFaultAccountRulesFirstBondRulesIgnoreAccount", spec := "fnFaultAccountRulesFirstBondRulesIgnoreAccount", apart := false }
def FnFaultAccountRulesFirstBondRulesIgnoreAccountSaid : Prop := fnFaultAccountRulesFirstBondRulesIgnoreAccountRow.holds Try.pinned (OpenSpec.ofChange fnFaultAccountRulesFirstBondRulesIgnoreAccountSpec)

/-- ITS FALSE NEIGHBOUR: 'it returns false'. Refute it at one input. -/
def fnFaultAccountRulesFirstBondRulesIgnoreAccountWrong : ChangeSpec := { name := "fnFaultAccountRulesFirstBondRulesIgnoreAccount", fn := fun _ => fun
  | [d1, d2, d3, d4, d5, d6, d7, d8, d9, d10] => { results := [.lit (.bool false)], args := [d1, d2, d3, d4, d5, d6, d7, d8, d9, d10] }
  | _ => none }
def FnFaultAccountRulesFirstBondRulesIgnoreAccountWrongFalsely : Prop := fnFaultAccountRulesFirstBondRulesIgnoreAccountRow.holds Try.pinned (OpenSpec.ofChange fnFaultAccountRulesFirstBondRulesIgnoreAccountWrong)

/-- 'zzlaws_pkg_issuance_b1.FnFaultCountsOverBondWindow': WHATEVER THE INPUT: true; the input reads as it did. -/
def fnFaultCountsOverBondWindowSpec : ChangeSpec := { name := "fnFaultCountsOverBondWindow", fn := fun _ => fun
  | [d1, d2, d3, d4, d5, d6, d7] => { results := [.lit (.bool true)], args := [d1, d2, d3, d4, d5, d6, d7] }
  | _ => none }
def fnFaultCountsOverBondWindowRow : OpenClaim := { program := "qxb6616510a", sum := "94e98a05fb27c368e0ca99606155e2a1ece98e37cd673c91e130b97a14b44d39", func := "example.com/zhuangu/zhuangu/zzlaws_pkg_issuance_b1.FnFaultCountsOverBondWindow", spec := "fnFaultCountsOverBondWindow", apart := false }
def FnFaultCountsOverBondWindowSaid : Prop := fnFaultCountsOverBondWindowRow.holds Try.pinned (OpenSpec.ofChange fnFaultCountsOverBondWindowSpec)

/-- ITS FALSE NEIGHBOUR: 'it returns false'. Refute it at one input. -/
def fnFaultCountsOverBondWindowWrong : ChangeSpec := { name := "fnFaultCountsOverBondWindow", fn := fun _ => fun
  | [d1, d2, d3, d4, d5, d6, d7] => { results := [.lit (.bool false)], args := [d1, d2, d3, d4, d5, d6, d7] }
  | _ => none }
def FnFaultCountsOverBondWindowWrongFalsely : Prop := fnFaultCountsOverBondWindowRow.holds Try.pinned (OpenSpec.ofChange fnFaultCountsOverBondWindowWrong)

end Rows
end Go.Proofs.Qxb6616510a
