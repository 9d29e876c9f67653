/-
  No cell of these rows narrows 'for every input' (looked for: loops, veiled, ifaces, maps, wideKeys, modest, calm, conditions, laid).
  DERIVED. THE GIVEN ROWS OF THIS SEAT. 5 by the template 'for every input the law returns true; each argument reads behind the call as it read before'; 0 by the template 'total and deterministic' (their statements: Qxb6616542aTotals.lean).
  GIVEN WITH THE SEED: the statements are not yours to turn. If you find one false, say at which input.
  Laid BY PROGRAM, IN A SANDBOX (cutbox-rows.mjs): the forced cells as the released guide's own fill.sh prints them over the translation f9a42c04e2cff1e6… (all of the seat's roots in one cut). By AI agents, Wed Nov 11 2026. No macro, syntax, notation, axiom, sorry.
-/
import Derived.Test.Qxb6616542aChecked
import GoSem.Claim
import GoSem.ClaimJoined
import GoSem.ClaimMapViews
import Derived.JoinedTies
import Derived.KernelRfl
namespace Go.Proofs.Qxb6616542a
/- THE CELL 'sum', in the pinned program and in every row, IS THE sha256 OF THE DUMP (.gsa) THAT Qxb6616542aProg.lean LOADS. Nothing in Lean hashes anything: it is a label: what it is worth is what the hold of that sum in a sandbox is worth. -/
noncomputable def Try.pinned : Pinned := { name := "qxb6616542a", sum := "f9a42c04e2cff1e6f752137018b41e6b41333ed255f316389c21727b25331c3b", checked := Try.checked }
namespace Rows
def none {H : Type} : Left H := { results := [], args := [] }

/-- 'zzlaws_bson_b1.FnAsUint32AcceptsJustInt64sInRange': WHATEVER THE INPUT: true; the input reads as it did. -/
def fnAsUint32AcceptsJustInt64sInRangeSpec : ChangeSpec := { name := "fnAsUint32AcceptsJustInt64sInRange", fn := fun _ => fun
  | [d] => { results := [.lit (.bool true)], args := [d] }
  | _ => none }
def fnAsUint32AcceptsJustInt64sInRangeRow : OpenClaim := { program := "qxb6616542a", sum := "f9a42c04e2cff1e6f752137018b41e6b41333ed255f316389c21727b25331c3b", func := "example.com/bramblequay/bramblequay/zzlaws_bson_b1.FnAsUint32AcceptsJustInt64sInRange", spec := "fnAsUint32AcceptsJustInt64sInRange", apart := false }
def FnAsUint32AcceptsJustInt64sInRangeSaid : Prop := fnAsUint32AcceptsJustInt64sInRangeRow.holds Try.pinned (OpenSpec.ofChange fnAsUint32AcceptsJustInt64sInRangeSpec)

/-- ITS FALSE NEIGHBOUR: 'it returns false'. Refute it at one input. -/
def fnAsUint32AcceptsJustInt64sInRangeWrong : ChangeSpec := { name := "fnAsUint32AcceptsJustInt64sInRange", fn := fun _ => fun
  | [d] => { results := [.lit (.bool false)], args := [d] }
  | _ => none }
def FnAsUint32AcceptsJustInt64sInRangeWrongFalsely : Prop := fnAsUint32AcceptsJustInt64sInRangeRow.holds Try.pinned (OpenSpec.ofChange fnAsUint32AcceptsJustInt64sInRangeWrong)

/-- 'zzlaws_bson_b1.FnAsUint32RefusesDoublesUnsignedAndTexts': WHATEVER THE INPUT: true; the input reads as it did. -/
def fnAsUint32RefusesDoublesUnsignedAndTextsSpec : ChangeSpec := { name := "fnAsUint32RefusesDoublesUnsignedAndTexts", fn := fun _ => fun
  | [d1, d2] => { results := [.lit (.bool true)], args := [d1, d2] }
  | _ => none }
def fnAsUint32RefusesDoublesUnsignedAndTextsRow : OpenClaim := { program := "qxb6616542a", sum := "f9a42c04e2cff1e6f752137018b41e6b41333ed255f316389c21727b25331c3b", func := "example.com/bramblequay/bramblequay/zzlaws_bson_b1.FnAsUint32RefusesDoublesUnsignedAndTexts", spec := "fnAsUint32RefusesDoublesUnsignedAndTexts", apart := false }
def FnAsUint32RefusesDoublesUnsignedAndTextsSaid : Prop := fnAsUint32RefusesDoublesUnsignedAndTextsRow.holds Try.pinned (OpenSpec.ofChange fnAsUint32RefusesDoublesUnsignedAndTextsSpec)

/-- ITS FALSE NEIGHBOUR: 'it returns false'. Refute it at one input. -/
def fnAsUint32RefusesDoublesUnsignedAndTextsWrong : ChangeSpec := { name := "fnAsUint32RefusesDoublesUnsignedAndTexts", fn := fun _ => fun
  | [d1, d2] => { results := [.lit (.bool false)], args := [d1, d2] }
  | _ => none }
def FnAsUint32RefusesDoublesUnsignedAndTextsWrongFalsely : Prop := fnAsUint32RefusesDoublesUnsignedAndTextsRow.holds Try.pinned (OpenSpec.ofChange fnAsUint32RefusesDoublesUnsignedAndTextsWrong)

/-- 'zzlaws_bson_b1.FnIsNumberTakesDoublesIntegersAndDecimals': WHATEVER THE INPUT: true; the input reads as it did. -/
def fnIsNumberTakesDoublesIntegersAndDecimalsSpec : ChangeSpec := { name := "fnIsNumberTakesDoublesIntegersAndDecimals", fn := fun _ => fun
  | [d1, d2, d3, d4, d5] => { results := [.lit (.bool true)], args := [d1, d2, d3, d4, d5] }
  | _ => none }
def fnIsNumberTakesDoublesIntegersAndDecimalsRow : OpenClaim := { program := "qxb6616542a", sum := "f9a42c04e2cff1e6f752137018b41e6b41333ed255f316389c21727b25331c3b", func := "example.com/bramblequay/bramblequay/zzlaws_bson_b1.FnIsNumberTakesDoublesIntegersAndDecimals", spec := "fnIsNumberTakesDoublesIntegersAndDecimals", apart := false }
def FnIsNumberTakesDoublesIntegersAndDecimalsSaid : Prop := fnIsNumberTakesDoublesIntegersAndDecimalsRow.holds Try.pinned (OpenSpec.ofChange fnIsNumberTakesDoublesIntegersAndDecimalsSpec)

/-- ITS FALSE NEIGHBOUR: 'it returns false'. Refute it at one input. -/
def fnIsNumberTakesDoublesIntegersAndDecimalsWrong : ChangeSpec := { name := "fnIsNumberTakesDoublesIntegersAndDecimals", fn := fun _ => fun
  | [d1, d2, d3, d4, d5] => { results := [.lit (.bool false)], args := [d1, d2, d3, d4, d5] }
  | _ => none }
def FnIsNumberTakesDoublesIntegersAndDecimalsWrongFalsely : Prop := fnIsNumberTakesDoublesIntegersAndDecimalsRow.holds Try.pinned (OpenSpec.ofChange fnIsNumberTakesDoublesIntegersAndDecimalsWrong)

/-- 'zzlaws_bson_b1.FnDocGetFirstFieldWinsAtAnyCut': WHATEVER THE INPUT: true; the input reads as it did. -/
def fnDocGetFirstFieldWinsAtAnyCutSpec : ChangeSpec := { name := "fnDocGetFirstFieldWinsAtAnyCut", fn := fun _ => fun
  | [d1, d2, d3] => { results := [.lit (.bool true)], args := [d1, d2, d3] }
  | _ => none }
def fnDocGetFirstFieldWinsAtAnyCutRow : OpenClaim := { program := "qxb6616542a", sum := "f9a42c04e2cff1e6f752137018b41e6b41333ed255f316389c21727b25331c3b", func := "example.com/bramblequay/bramblequay/zzlaws_bson_b1.FnDocGetFirstFieldWinsAtAnyCut", spec := "fnDocGetFirstFieldWinsAtAnyCut", apart := false }
def FnDocGetFirstFieldWinsAtAnyCutSaid : Prop := fnDocGetFirstFieldWinsAtAnyCutRow.holds Try.pinned (OpenSpec.ofChange fnDocGetFirstFieldWinsAtAnyCutSpec)

/-- ITS FALSE NEIGHBOUR: 'it returns false'. Refute it at one input. -/
def fnDocGetFirstFieldWinsAtAnyCutWrong : ChangeSpec := { name := "fnDocGetFirstFieldWinsAtAnyCut", fn := fun _ => fun
  | [d1, d2, d3] => { results := [.lit (.bool false)], args := [d1, d2, d3] }
  | _ => none }
def FnDocGetFirstFieldWinsAtAnyCutWrongFalsely : Prop := fnDocGetFirstFieldWinsAtAnyCutRow.holds Try.pinned (OpenSpec.ofChange fnDocGetFirstFieldWinsAtAnyCutWrong)

/-- 'zzlaws_bson_b1.FnDocGetSeesAFieldPutInAnywhere': WHATEVER THE INPUT: true; the input reads as it did. -/
def fnDocGetSeesAFieldPutInAnywhereSpec : ChangeSpec := { name := "fnDocGetSeesAFieldPutInAnywhere", fn := fun _ => fun
  | [d1, d2, d3, d4, d5] => { results := [.lit (.bool true)], args := [d1, d2, d3, d4, d5] }
  | _ => none }
def fnDocGetSeesAFieldPutInAnywhereRow : OpenClaim := { program := "qxb6616542a", sum := "f9a42c04e2cff1e6f752137018b41e6b41333ed255f316389c21727b25331c3b", func := "example.com/bramblequay/bramblequay/zzlaws_bson_b1.FnDocGetSeesAFieldPutInAnywhere", spec := "fnDocGetSeesAFieldPutInAnywhere", apart := false }
def FnDocGetSeesAFieldPutInAnywhereSaid : Prop := fnDocGetSeesAFieldPutInAnywhereRow.holds Try.pinned (OpenSpec.ofChange fnDocGetSeesAFieldPutInAnywhereSpec)

/-- ITS FALSE NEIGHBOUR: 'it returns false'. Refute it at one input. -/
def fnDocGetSeesAFieldPutInAnywhereWrong : ChangeSpec := { name := "fnDocGetSeesAFieldPutInAnywhere", fn := fun _ => fun
  | [d1, d2, d3, d4, d5] => { results := [.lit (.bool false)], args := [d1, d2, d3, d4, d5] }
  | _ => none }
def FnDocGetSeesAFieldPutInAnywhereWrongFalsely : Prop := fnDocGetSeesAFieldPutInAnywhereRow.holds Try.pinned (OpenSpec.ofChange fnDocGetSeesAFieldPutInAnywhereWrong)

end Rows
end Go.Proofs.Qxb6616542a
