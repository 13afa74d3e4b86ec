import Derived.Test.Qxb6603109aMaps
import Derived.Test.Qxb6603109aW20
import Derived.WalkSmall
namespace Go.Proofs.Qxb6603109a
open Go.ChangeShapes Go.WideShapes Go.ChangeAt Go.RowKit Go.MapKept

/-- a run as the element of the inner map -/
def runV (r : ByteArray) : Value := .agg #[.string r, .string ⟨#[]⟩]

theorem zero63 (w : World) : (zeroValue 63).run Try.prog w = .ok (.map none) w := by kernel_rfl
theorem zero66 (w : World) : (zeroValue 66).run Try.prog w = .ok (runV ⟨#[]⟩) w := by kernel_rfl

/-- block M is the map of maps that holds L -/
def MS (w : World) (M : Nat) (L : ByteArray → ByteArray → Option ByteArray) : Prop :=
  ∃ g : ByteArray → Option Nat, MapAt w M (fun d => (g d).map fun b => .map (some b)) ∧
    (∀ d b, g d = some b → M < b ∧ MapAt w b (fun n => (L d n).map runV)) ∧
    (∀ d d' b, g d = some b → g d' = some b → d = d') ∧ (∀ d, g d = none → ∀ n, L d n = none)

theorem MS.lt {w : World} {M : Nat} {L : ByteArray → ByteArray → Option ByteArray} (h : MS w M L) : M < w.heap.size := by
  obtain ⟨g, h1, _⟩ := h
  exact h1.lt

theorem MS.below {w w' : World} {M : Nat} {L : ByteArray → ByteArray → Option ByteArray} (h : MS w M L) (hb : Below w.heap.size w w') : MS w' M L := by
  obtain ⟨g, h1, h2, h3, h4⟩ := h
  refine ⟨g, h1.of_block (hb.block _ h1.lt), fun d b hg => ?_, h3, h4⟩
  obtain ⟨a, c⟩ := h2 d b hg
  exact ⟨a, c.of_block (hb.block _ c.lt)⟩

theorem MS.made (w : World) : MS (w.alloc (.map #[] 0)) w.heap.size (fun _ _ => none) := by
  refine ⟨fun _ => none, MapAt.made w, ?_, ?_, fun _ _ _ => rfl⟩
  · intro d b h; cases h
  · intro d d' b h; cases h

theorem MS.look {w : World} {M : Nat} {L : ByteArray → ByteArray → Option ByteArray} (h : MS w M L) (d n : ByteArray) : ∃ o : Option Nat, ∀ W', Below w.heap.size w W' →
    (Instr.lookup 62 (.map (some M)) (.string d) false).run Try.prog W' = .ok (.map o) W' ∧
    (Instr.lookup 63 (.map o) (.string n) true).run Try.prog W' = .ok (.tuple #[runV ((L d n).getD ⟨#[]⟩), .bool (L d n).isSome]) W' := by
  obtain ⟨g, h1, h2, h3, h4⟩ := h
  refine ⟨g d, fun W' hb => ?_⟩
  have h1' := h1.of_block (hb.block _ h1.lt)
  have l1 := h1'.look1 (P := Try.prog) (t := 62) Try.underlying62 Try.underlying9 zero63 d
  cases hg : g d with
  | none =>
    rw [hg] at l1
    refine ⟨l1, ?_⟩
    rw [look_none Try.underlying63 Try.underlying9 zero66 n, h4 d hg n]
    rfl
  | some b =>
    rw [hg] at l1
    refine ⟨l1, ?_⟩
    obtain ⟨_, hM⟩ := h2 d b hg
    have hM' := hM.of_block (hb.block _ hM.lt)
    rw [hM'.look (P := Try.prog) (t := 63) Try.underlying63 Try.underlying9 zero66 n]
    cases hL : L d n <;> simp

/-- a look-up by its run, at the operation -/
theorem wpList_lookup_run {P : Program} {w : World} {ops : Array Oper} {rest : List Oper} {o : Oper} {a : Act} {Q : Exit → Act → World → Prop}
    (hg : o.guard = none) (m x : Operand) (t : TypeId) (c : Bool) (hop : o.op = Op.lookup t m x c) (mv key v : Value) (hm : a.eval m = mv) (hx : a.eval x = key)
    (hrun : (Instr.lookup t mv key c).run P w = .ok v w) (h : wpList P ops Q rest (a.put o.dst v) w) : wpList P ops Q (o :: rest) a w := by
  refine wpList_plain hg fun K' hK' => ?_
  unfold Oper.wp
  simp [execOp, hop, hm, hx, hrun, Result.andThen]
  exact hK' _ _ h

/-- a store into a map by its run, at the operation -/
theorem wpList_update_run {P : Program} {w w' : World} {ops : Array Oper} {rest : List Oper} {o : Oper} {a : Act} {Q : Exit → Act → World → Prop}
    (hg : o.guard = none) (m x y : Operand) (t : TypeId) (hop : o.op = Op.mapUpdate t m x y) (mv key v : Value) (hm : a.eval m = mv) (hx : a.eval x = key) (hy : a.eval y = v)
    (hrun : (Instr.mapUpdate t mv key v).run P w = .ok () w') (h : wpList P ops Q rest (a.put o.dst undef) w') : wpList P ops Q (o :: rest) a w := by
  refine wpList_plain hg fun K' hK' => ?_
  unfold Oper.wp
  simp [execOp, hop, hm, hx, hy, hrun, Result.andThen]
  exact hK' _ _ h

/-! ### what lastCheck answers -/
def lcStep (st : Int × Int × ByteArray) (i : Nat) : Option ByteArray → Int × Int × ByteArray
  | none => st
  | some r => if st.1 < 0 then ((i : Int), (i : Int), r) else (st.1, if r = st.2.2 then (i : Int) else st.2.1, st.2.2)
def lc (hit : Nat → Option ByteArray) : Nat → Int × Int × ByteArray
  | 0 => (-1, -1, ⟨#[]⟩)
  | k + 1 => lcStep (lc hit k) k (hit k)

end Go.Proofs.Qxb6603109a
