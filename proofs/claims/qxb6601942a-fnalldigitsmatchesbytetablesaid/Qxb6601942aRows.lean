/-
  No cell of these rows narrows 'for every input' (looked for: loops, veiled, ifaces, maps, wideKeys, modest, calm, conditions, laid).
  DERIVED. THE GIVEN ROWS OF THIS SEAT. 4 by the template 'for every input the law returns true; each argument reads behind the call as it read before'; 0 by the template 'total and deterministic' (their statements: Qxb6601942aTotals.lean).
  GIVEN WITH THE SEED: the statements are not yours to turn. If you find one false, say at which input.
  Laid BY PROGRAM, IN A SANDBOX (cutbox-rows.mjs): the forced cells as the released guide's own fill.sh prints them over the translation b6ee97dc2fa89f4e… (all of the seat's roots in one cut). By AI agents, Wed Nov 11 2026. No macro, syntax, notation, axiom, sorry.
-/
import Derived.Test.Qxb6601942aChecked
import GoSem.Claim
import GoSem.ClaimJoined
import GoSem.ClaimMapViews
import Derived.JoinedTies
import Derived.KernelRfl
namespace Go.Proofs.Qxb6601942a
/- THE CELL 'sum', in the pinned program and in every row, IS THE sha256 OF THE DUMP (.gsa) THAT Qxb6601942aProg.lean LOADS. Nothing in Lean hashes anything: it is a label: what it is worth is what the hold of that sum in a sandbox is worth. -/
noncomputable def Try.pinned : Pinned := { name := "qxb6601942a", sum := "b6ee97dc2fa89f4e49dc6a2956aff0c0478b27dadd73503a1b4dc2d3364e0e98", checked := Try.checked }
namespace Rows
def none {H : Type} : Left H := { results := [], args := [] }

/-- 'zzlaws_internal_dict_b1.FnLevelNoWorseWithMoreTokens': WHATEVER THE INPUT: true; the input reads as it did. -/
def fnLevelNoWorseWithMoreTokensSpec : ChangeSpec := { name := "fnLevelNoWorseWithMoreTokens", fn := fun _ => fun
  | [d1, d2, d3, d4, d5] => { results := [.lit (.bool true)], args := [d1, d2, d3, d4, d5] }
  | _ => none }
def fnLevelNoWorseWithMoreTokensRow : OpenClaim := { program := "qxb6601942a", sum := "b6ee97dc2fa89f4e49dc6a2956aff0c0478b27dadd73503a1b4dc2d3364e0e98", func := "example.com/fichad/fichad/zzlaws_internal_dict_b1.FnLevelNoWorseWithMoreTokens", spec := "fnLevelNoWorseWithMoreTokens", apart := false }
def FnLevelNoWorseWithMoreTokensSaid : Prop := fnLevelNoWorseWithMoreTokensRow.holds Try.pinned (OpenSpec.ofChange fnLevelNoWorseWithMoreTokensSpec)

/-- ITS FALSE NEIGHBOUR: 'it returns false'. Refute it at one input. -/
def fnLevelNoWorseWithMoreTokensWrong : ChangeSpec := { name := "fnLevelNoWorseWithMoreTokens", fn := fun _ => fun
  | [d1, d2, d3, d4, d5] => { results := [.lit (.bool false)], args := [d1, d2, d3, d4, d5] }
  | _ => none }
def FnLevelNoWorseWithMoreTokensWrongFalsely : Prop := fnLevelNoWorseWithMoreTokensRow.holds Try.pinned (OpenSpec.ofChange fnLevelNoWorseWithMoreTokensWrong)

/-- 'zzlaws_internal_dict_b1.FnLevelNoBetterWithLargerCapacity': WHATEVER THE INPUT: true; the input reads as it did. -/
def fnLevelNoBetterWithLargerCapacitySpec : ChangeSpec := { name := "fnLevelNoBetterWithLargerCapacity", fn := fun _ => fun
  | [d1, d2, d3, d4, d5] => { results := [.lit (.bool true)], args := [d1, d2, d3, d4, d5] }
  | _ => none }
def fnLevelNoBetterWithLargerCapacityRow : OpenClaim := { program := "qxb6601942a", sum := "b6ee97dc2fa89f4e49dc6a2956aff0c0478b27dadd73503a1b4dc2d3364e0e98", func := "example.com/fichad/fichad/zzlaws_internal_dict_b1.FnLevelNoBetterWithLargerCapacity", spec := "fnLevelNoBetterWithLargerCapacity", apart := false }
def FnLevelNoBetterWithLargerCapacitySaid : Prop := fnLevelNoBetterWithLargerCapacityRow.holds Try.pinned (OpenSpec.ofChange fnLevelNoBetterWithLargerCapacitySpec)

/-- ITS FALSE NEIGHBOUR: 'it returns false'. Refute it at one input. -/
def fnLevelNoBetterWithLargerCapacityWrong : ChangeSpec := { name := "fnLevelNoBetterWithLargerCapacity", fn := fun _ => fun
  | [d1, d2, d3, d4, d5] => { results := [.lit (.bool false)], args := [d1, d2, d3, d4, d5] }
  | _ => none }
def FnLevelNoBetterWithLargerCapacityWrongFalsely : Prop := fnLevelNoBetterWithLargerCapacityRow.holds Try.pinned (OpenSpec.ofChange fnLevelNoBetterWithLargerCapacityWrong)

/-- 'zzlaws_internal_dict_b1.FnAllDigitsMatchesByteTable': WHATEVER THE INPUT: true; the input reads as it did. -/
def fnAllDigitsMatchesByteTableSpec : ChangeSpec := { name := "fnAllDigitsMatchesByteTable", fn := fun _ => fun
  | [d] => { results := [.lit (.bool true)], args := [d] }
  | _ => none }
def fnAllDigitsMatchesByteTableRow : OpenClaim := { program := "qxb6601942a", sum := "b6ee97dc2fa89f4e49dc6a2956aff0c0478b27dadd73503a1b4dc2d3364e0e98", func := "example.com/fichad/fichad/zzlaws_internal_dict_b1.FnAllDigitsMatchesByteTable", spec := "fnAllDigitsMatchesByteTable", apart := false }
def FnAllDigitsMatchesByteTableSaid : Prop := fnAllDigitsMatchesByteTableRow.holds Try.pinned (OpenSpec.ofChange fnAllDigitsMatchesByteTableSpec)

/-- ITS FALSE NEIGHBOUR: 'it returns false'. Refute it at one input. -/
def fnAllDigitsMatchesByteTableWrong : ChangeSpec := { name := "fnAllDigitsMatchesByteTable", fn := fun _ => fun
  | [d] => { results := [.lit (.bool false)], args := [d] }
  | _ => none }
def FnAllDigitsMatchesByteTableWrongFalsely : Prop := fnAllDigitsMatchesByteTableRow.holds Try.pinned (OpenSpec.ofChange fnAllDigitsMatchesByteTableWrong)

/-- 'zzlaws_internal_dict_b1.FnAllDigitsSplitsOverConcat': WHATEVER THE INPUT: true; the input reads as it did. -/
def fnAllDigitsSplitsOverConcatSpec : ChangeSpec := { name := "fnAllDigitsSplitsOverConcat", fn := fun _ => fun
  | [d1, d2] => { results := [.lit (.bool true)], args := [d1, d2] }
  | _ => none }
def fnAllDigitsSplitsOverConcatRow : OpenClaim := { program := "qxb6601942a", sum := "b6ee97dc2fa89f4e49dc6a2956aff0c0478b27dadd73503a1b4dc2d3364e0e98", func := "example.com/fichad/fichad/zzlaws_internal_dict_b1.FnAllDigitsSplitsOverConcat", spec := "fnAllDigitsSplitsOverConcat", apart := false }
def FnAllDigitsSplitsOverConcatSaid : Prop := fnAllDigitsSplitsOverConcatRow.holds Try.pinned (OpenSpec.ofChange fnAllDigitsSplitsOverConcatSpec)

/-- ITS FALSE NEIGHBOUR: 'it returns false'. Refute it at one input. -/
def fnAllDigitsSplitsOverConcatWrong : ChangeSpec := { name := "fnAllDigitsSplitsOverConcat", fn := fun _ => fun
  | [d1, d2] => { results := [.lit (.bool false)], args := [d1, d2] }
  | _ => none }
def FnAllDigitsSplitsOverConcatWrongFalsely : Prop := fnAllDigitsSplitsOverConcatRow.holds Try.pinned (OpenSpec.ofChange fnAllDigitsSplitsOverConcatWrong)

end Rows
end Go.Proofs.Qxb6601942a
