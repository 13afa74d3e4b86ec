/-
  No cell of these rows narrows 'for every input' (looked for: loops, veiled, ifaces, maps, wideKeys, modest, calm, conditions, laid).
  DERIVED. THE GIVEN ROWS OF THIS SEAT. 3 by the template 'for every input the law returns true; each argument reads behind the call as it read before'; 0 by the template 'total and deterministic' (their statements: Qxb6001667aTotals.lean).
  GIVEN WITH THE SEED: the statements are not yours to turn. If you find one false, say at which input.
  Laid BY PROGRAM, IN A SANDBOX (cutbox-rows.mjs): the forced cells as the released guide's own fill.sh prints them over the translation ee072cc248a0d8e7… (all of the seat's roots in one cut). By AI agents, Wed Nov 11 2026. No macro, syntax, notation, axiom, sorry.
-/
import Derived.Test.Qxb6001667aChecked
import GoSem.Claim
import GoSem.ClaimJoined
import GoSem.ClaimMapViews
import Derived.JoinedTies
import Derived.KernelRfl
namespace Go.Proofs.Qxb6001667a
/- THE CELL 'sum', in the pinned program and in every row, IS THE sha256 OF THE DUMP (.gsa) THAT Qxb6001667aProg.lean LOADS. Nothing in Lean hashes anything: it is a label: what it is worth is what the hold of that sum in a sandbox is worth. -/
noncomputable def Try.pinned : Pinned := { name := "qxb6001667a", sum := "ee072cc248a0d8e7cde1335fc06ee2dbb2d6b08bf0c519ec1ac4064abcfd02bc", checked := Try.checked }
namespace Rows
def none {H : Type} : Left H := { results := [], args := [] }

/-- 'zzlaws_internal_defs_g1.FnDivideIsFloorDivision': WHATEVER THE INPUT: true; the input reads as it did. -/
def fnDivideIsFloorDivisionSpec : ChangeSpec := { name := "fnDivideIsFloorDivision", fn := fun _ => fun
  | [d1, d2] => { results := [.lit (.bool true)], args := [d1, d2] }
  | _ => none }
def fnDivideIsFloorDivisionRow : OpenClaim := { program := "qxb6001667a", sum := "ee072cc248a0d8e7cde1335fc06ee2dbb2d6b08bf0c519ec1ac4064abcfd02bc", func := "example.com/cronwright/cronwright/zzlaws_internal_defs_g1.FnDivideIsFloorDivision", spec := "fnDivideIsFloorDivision", apart := false }
def FnDivideIsFloorDivisionSaid : Prop := fnDivideIsFloorDivisionRow.holds Try.pinned (OpenSpec.ofChange fnDivideIsFloorDivisionSpec)

/-- ITS FALSE NEIGHBOUR: 'it returns false'. Refute it at one input. -/
def fnDivideIsFloorDivisionWrong : ChangeSpec := { name := "fnDivideIsFloorDivision", fn := fun _ => fun
  | [d1, d2] => { results := [.lit (.bool false)], args := [d1, d2] }
  | _ => none }
def FnDivideIsFloorDivisionWrongFalsely : Prop := fnDivideIsFloorDivisionRow.holds Try.pinned (OpenSpec.ofChange fnDivideIsFloorDivisionWrong)

/-- 'zzlaws_internal_defs_g1.FnFirstWeekdayIsFirstWeekdayOnOrAfter': WHATEVER THE INPUT: true; the input reads as it did. -/
def fnFirstWeekdayIsFirstWeekdayOnOrAfterSpec : ChangeSpec := { name := "fnFirstWeekdayIsFirstWeekdayOnOrAfter", fn := fun _ => fun
  | [d] => { results := [.lit (.bool true)], args := [d] }
  | _ => none }
def fnFirstWeekdayIsFirstWeekdayOnOrAfterRow : OpenClaim := { program := "qxb6001667a", sum := "ee072cc248a0d8e7cde1335fc06ee2dbb2d6b08bf0c519ec1ac4064abcfd02bc", func := "example.com/cronwright/cronwright/zzlaws_internal_defs_g1.FnFirstWeekdayIsFirstWeekdayOnOrAfter", spec := "fnFirstWeekdayIsFirstWeekdayOnOrAfter", apart := false }
def FnFirstWeekdayIsFirstWeekdayOnOrAfterSaid : Prop := fnFirstWeekdayIsFirstWeekdayOnOrAfterRow.holds Try.pinned (OpenSpec.ofChange fnFirstWeekdayIsFirstWeekdayOnOrAfterSpec)

/-- ITS FALSE NEIGHBOUR: 'it returns false'. Refute it at one input. -/
def fnFirstWeekdayIsFirstWeekdayOnOrAfterWrong : ChangeSpec := { name := "fnFirstWeekdayIsFirstWeekdayOnOrAfter", fn := fun _ => fun
  | [d] => { results := [.lit (.bool false)], args := [d] }
  | _ => none }
def FnFirstWeekdayIsFirstWeekdayOnOrAfterWrongFalsely : Prop := fnFirstWeekdayIsFirstWeekdayOnOrAfterRow.holds Try.pinned (OpenSpec.ofChange fnFirstWeekdayIsFirstWeekdayOnOrAfterWrong)

/-- 'zzlaws_internal_defs_g1.FnFirstWeekdayCountsWeekdays': WHATEVER THE INPUT: true; the input reads as it did. -/
def fnFirstWeekdayCountsWeekdaysSpec : ChangeSpec := { name := "fnFirstWeekdayCountsWeekdays", fn := fun _ => fun
  | [d1, d2] => { results := [.lit (.bool true)], args := [d1, d2] }
  | _ => none }
def fnFirstWeekdayCountsWeekdaysRow : OpenClaim := { program := "qxb6001667a", sum := "ee072cc248a0d8e7cde1335fc06ee2dbb2d6b08bf0c519ec1ac4064abcfd02bc", func := "example.com/cronwright/cronwright/zzlaws_internal_defs_g1.FnFirstWeekdayCountsWeekdays", spec := "fnFirstWeekdayCountsWeekdays", apart := false }
def FnFirstWeekdayCountsWeekdaysSaid : Prop := fnFirstWeekdayCountsWeekdaysRow.holds Try.pinned (OpenSpec.ofChange fnFirstWeekdayCountsWeekdaysSpec)

/-- ITS FALSE NEIGHBOUR: 'it returns false'. Refute it at one input. -/
def fnFirstWeekdayCountsWeekdaysWrong : ChangeSpec := { name := "fnFirstWeekdayCountsWeekdays", fn := fun _ => fun
  | [d1, d2] => { results := [.lit (.bool false)], args := [d1, d2] }
  | _ => none }
def FnFirstWeekdayCountsWeekdaysWrongFalsely : Prop := fnFirstWeekdayCountsWeekdaysRow.holds Try.pinned (OpenSpec.ofChange fnFirstWeekdayCountsWeekdaysWrong)

end Rows
end Go.Proofs.Qxb6001667a
