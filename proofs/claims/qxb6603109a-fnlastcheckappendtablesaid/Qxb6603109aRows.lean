/-
  No cell of these rows narrows 'for every input' (looked for: loops, veiled, ifaces, maps, wideKeys, modest, calm, conditions, laid).
  DERIVED. THE GIVEN ROWS OF THIS SEAT. 4 by the template 'for every input the law returns true; each argument reads behind the call as it read before'; 0 by the template 'total and deterministic' (their statements: Qxb6603109aTotals.lean).
  GIVEN WITH THE SEED: the statements are not yours to turn. If you find one false, say at which input.
  Laid BY PROGRAM, IN A SANDBOX (cutbox-rows.mjs): the forced cells as the released guide's own fill.sh prints them over the translation cab2e1645b5e0e7e… (all of the seat's roots in one cut). By AI agents, Wed Nov 11 2026. No macro, syntax, notation, axiom, sorry.
-/
import Derived.Test.Qxb6603109aChecked
import GoSem.Claim
import GoSem.ClaimJoined
import GoSem.ClaimMapViews
import Derived.JoinedTies
import Derived.KernelRfl
namespace Go.Proofs.Qxb6603109a
/- THE CELL 'sum', in the pinned program and in every row, IS THE sha256 OF THE DUMP (.gsa) THAT Qxb6603109aProg.lean LOADS. Nothing in Lean hashes anything: it is a label: what it is worth is what the hold of that sum in a sandbox is worth. -/
noncomputable def Try.pinned : Pinned := { name := "qxb6603109a", sum := "cab2e1645b5e0e7e2bc4abe5d204fa1ce817f47a588131b3e2e5517f66755545", checked := Try.checked }
namespace Rows
def none {H : Type} : Left H := { results := [], args := [] }

/-- 'zzlaws_root_b1.FnChunkTriesAddScriptMatchesFirstEvent': WHATEVER THE INPUT: true; the input reads as it did. -/
def fnChunkTriesAddScriptMatchesFirstEventSpec : ChangeSpec := { name := "fnChunkTriesAddScriptMatchesFirstEvent", fn := fun _ => fun
  | [d1, d2, d3, d4, d5] => { results := [.lit (.bool true)], args := [d1, d2, d3, d4, d5] }
  | _ => none }
def fnChunkTriesAddScriptMatchesFirstEventRow : OpenClaim := { program := "qxb6603109a", sum := "cab2e1645b5e0e7e2bc4abe5d204fa1ce817f47a588131b3e2e5517f66755545", func := "example.com/driftsum/driftsum/zzlaws_root_b1.FnChunkTriesAddScriptMatchesFirstEvent", spec := "fnChunkTriesAddScriptMatchesFirstEvent", apart := false }
def FnChunkTriesAddScriptMatchesFirstEventSaid : Prop := fnChunkTriesAddScriptMatchesFirstEventRow.holds Try.pinned (OpenSpec.ofChange fnChunkTriesAddScriptMatchesFirstEventSpec)

/-- ITS FALSE NEIGHBOUR: 'it returns false'. Refute it at one input. -/
def fnChunkTriesAddScriptMatchesFirstEventWrong : ChangeSpec := { name := "fnChunkTriesAddScriptMatchesFirstEvent", fn := fun _ => fun
  | [d1, d2, d3, d4, d5] => { results := [.lit (.bool false)], args := [d1, d2, d3, d4, d5] }
  | _ => none }
def FnChunkTriesAddScriptMatchesFirstEventWrongFalsely : Prop := fnChunkTriesAddScriptMatchesFirstEventRow.holds Try.pinned (OpenSpec.ofChange fnChunkTriesAddScriptMatchesFirstEventWrong)

/-- 'zzlaws_root_b1.FnChunkTriesSettlesWithinMaxTries': WHATEVER THE INPUT: true; the input reads as it did. -/
def fnChunkTriesSettlesWithinMaxTriesSpec : ChangeSpec := { name := "fnChunkTriesSettlesWithinMaxTries", fn := fun _ => fun
  | [d1, d2] => { results := [.lit (.bool true)], args := [d1, d2] }
  | _ => none }
def fnChunkTriesSettlesWithinMaxTriesRow : OpenClaim := { program := "qxb6603109a", sum := "cab2e1645b5e0e7e2bc4abe5d204fa1ce817f47a588131b3e2e5517f66755545", func := "example.com/driftsum/driftsum/zzlaws_root_b1.FnChunkTriesSettlesWithinMaxTries", spec := "fnChunkTriesSettlesWithinMaxTries", apart := false }
def FnChunkTriesSettlesWithinMaxTriesSaid : Prop := fnChunkTriesSettlesWithinMaxTriesRow.holds Try.pinned (OpenSpec.ofChange fnChunkTriesSettlesWithinMaxTriesSpec)

/-- ITS FALSE NEIGHBOUR: 'it returns false'. Refute it at one input. -/
def fnChunkTriesSettlesWithinMaxTriesWrong : ChangeSpec := { name := "fnChunkTriesSettlesWithinMaxTries", fn := fun _ => fun
  | [d1, d2] => { results := [.lit (.bool false)], args := [d1, d2] }
  | _ => none }
def FnChunkTriesSettlesWithinMaxTriesWrongFalsely : Prop := fnChunkTriesSettlesWithinMaxTriesRow.holds Try.pinned (OpenSpec.ofChange fnChunkTriesSettlesWithinMaxTriesWrong)

/-- 'zzlaws_root_b1.FnLastCheckMatchesScanModel': WHATEVER THE INPUT: true; the input reads as it did. -/
def fnLastCheckMatchesScanModelSpec : ChangeSpec := { name := "fnLastCheckMatchesScanModel", fn := fun _ => fun
  | [d1, d2] => { results := [.lit (.bool true)], args := [d1, d2] }
  | _ => none }
def fnLastCheckMatchesScanModelRow : OpenClaim := { program := "qxb6603109a", sum := "cab2e1645b5e0e7e2bc4abe5d204fa1ce817f47a588131b3e2e5517f66755545", func := "example.com/driftsum/driftsum/zzlaws_root_b1.FnLastCheckMatchesScanModel", spec := "fnLastCheckMatchesScanModel", apart := false }
def FnLastCheckMatchesScanModelSaid : Prop := fnLastCheckMatchesScanModelRow.holds Try.pinned (OpenSpec.ofChange fnLastCheckMatchesScanModelSpec)

/-- ITS FALSE NEIGHBOUR: 'it returns false'. Refute it at one input. -/
def fnLastCheckMatchesScanModelWrong : ChangeSpec := { name := "fnLastCheckMatchesScanModel", fn := fun _ => fun
  | [d1, d2] => { results := [.lit (.bool false)], args := [d1, d2] }
  | _ => none }
def FnLastCheckMatchesScanModelWrongFalsely : Prop := fnLastCheckMatchesScanModelRow.holds Try.pinned (OpenSpec.ofChange fnLastCheckMatchesScanModelWrong)

/-- 'zzlaws_root_b1.FnLastCheckAppendTable': WHATEVER THE INPUT: true; the input reads as it did. -/
def fnLastCheckAppendTableSpec : ChangeSpec := { name := "fnLastCheckAppendTable", fn := fun _ => fun
  | [d1, d2, d3, d4] => { results := [.lit (.bool true)], args := [d1, d2, d3, d4] }
  | _ => none }
def fnLastCheckAppendTableRow : OpenClaim := { program := "qxb6603109a", sum := "cab2e1645b5e0e7e2bc4abe5d204fa1ce817f47a588131b3e2e5517f66755545", func := "example.com/driftsum/driftsum/zzlaws_root_b1.FnLastCheckAppendTable", spec := "fnLastCheckAppendTable", apart := false }
def FnLastCheckAppendTableSaid : Prop := fnLastCheckAppendTableRow.holds Try.pinned (OpenSpec.ofChange fnLastCheckAppendTableSpec)

/-- ITS FALSE NEIGHBOUR: 'it returns false'. Refute it at one input. -/
def fnLastCheckAppendTableWrong : ChangeSpec := { name := "fnLastCheckAppendTable", fn := fun _ => fun
  | [d1, d2, d3, d4] => { results := [.lit (.bool false)], args := [d1, d2, d3, d4] }
  | _ => none }
def FnLastCheckAppendTableWrongFalsely : Prop := fnLastCheckAppendTableRow.holds Try.pinned (OpenSpec.ofChange fnLastCheckAppendTableWrong)

end Rows
end Go.Proofs.Qxb6603109a
