/-
  BASE: what a slice of tries that came in is told by; small lemmas.
-/
import Derived.Test.Qxb6603109aRows
import Derived.WalkKit
import Derived.ProofKit
import Derived.WalkSpells
import Derived.WalkLawsBesides
import Derived.Deep.MidRow
import Derived.Deep.QuietTactic
import Derived.BigQuiet
namespace Go.Proofs.Qxb6603109a
open Go.ChangeShapes Go.WideShapes Go.ChangeAt Go.RowKit

/-- one try as plain data -/
structure T4 where
  sc : Int
  sh : ByteArray
  tc : Int
  th : ByteArray

/-- the slice value 'a', of 'len' elements, leads to the tries 'z' -/
def Row4 (w : World) (a : Option Addr) (len : Nat) (z : Nat → T4) : Prop :=
  len = 0 ∨ ∃ b off, a = some ⟨b, off, none⟩ ∧ ∀ i, i < len →
    w.cell? ⟨b, off + i * 4, none⟩ = some (.int .i64 (z i).sc) ∧ w.cell? ⟨b, off + i * 4 + 1, none⟩ = some (.string (z i).sh) ∧
    w.cell? ⟨b, off + i * 4 + 2, none⟩ = some (.int .i64 (z i).tc) ∧ w.cell? ⟨b, off + i * 4 + 3, none⟩ = some (.string (z i).th)

/-- each string fits -/
def Fit4 (len : Nat) (z : Nat → T4) : Prop := ∀ i, i < len → (z i).sh.size ≤ maxLen ∧ (z i).th.size ≤ maxLen

theorem Row4.at {w : World} {a : Option Addr} {len : Nat} {z : Nat → T4} (h : Row4 w a len z) {k : Nat} (hk : k < len) : ∃ b off, a = some ⟨b, off, none⟩ ∧
    w.cell? ⟨b, off + k * 4, none⟩ = some (.int .i64 (z k).sc) ∧ w.cell? ⟨b, off + k * 4 + 1, none⟩ = some (.string (z k).sh) ∧
    w.cell? ⟨b, off + k * 4 + 2, none⟩ = some (.int .i64 (z k).tc) ∧ w.cell? ⟨b, off + k * 4 + 3, none⟩ = some (.string (z k).th) := by
  rcases h with h | ⟨b, off, rfl, h⟩
  · omega
  · exact ⟨b, off, rfl, h k hk⟩

/-- some bool is handed back -/
def IsBool (e : Ending) : Prop := ∃ b : Bool, e = .returned (.bool b)
theorem IsBool.mk (b : Bool) : IsBool (.returned (.bool b)) := ⟨b, rfl⟩

theorem toList_ne {a b : ByteArray} (h : ¬ a = b) : (a.toList == b.toList) = false := by
  rw [ByteArray.toList_eq, ByteArray.toList_eq]
  exact beq_eq_false_iff_ne.2 fun e => h (bytes_inj e)

theorem nil22 (w : World) (a : Option Addr) (n c n' c' : Nat) : (binOp .eql 22 (.slice a n c) (.slice none n' c')).run Try.prog w = .ok (.bool a.isNone) w :=
  Lib.run_eql_slice_nil w _ _ a n c n' c' Try.underlying22

/-! ### A block of the call's own, filled cell by cell -/

/-- block B is the last; of its N cells the first c hold V; below B nothing has turned -/
def CopyRel (w wr : World) (B N : Nat) (V : Nat → Value) (c : Nat) : Prop :=
  Below B w wr ∧ wr.heap.size = B + 1 ∧ wr.there B 0 N ∧ ∀ j, j < c → wr.cell? ⟨B, j, none⟩ = some (V j)

theorem CopyRel.start (w : World) (cs : Array Value) (t : TypeId) (N : Nat) (h : cs.size = N) (V : Nat → Value) : CopyRel w (w.alloc (.cells cs t)) w.heap.size N V 0 := by
  refine ⟨(Below.refl _ _).alloc (Nat.le_refl _) _, by simp, fun j hj => ?_, fun i hi => absurd hi (Nat.not_lt_zero _)⟩
  constructor
  · simp [h, hj]
  · simp

theorem CopyRel.cell {w wr : World} {B N : Nat} {V : Nat → Value} {c : Nat} (h : CopyRel w wr B N V c) (j : Nat) (hj : j < N) : (∃ v, wr.cell? ⟨B, j, none⟩ = some v) ∧ wr.frozen? ⟨B, j, none⟩ = false := by
  have := h.2.2.1 j hj
  rw [Nat.zero_add] at this
  exact ⟨Option.isSome_iff_exists.1 this.1, this.2⟩

theorem CopyRel.step {w wr : World} {B N : Nat} {V : Nat → Value} {c : Nat} (h : CopyRel w wr B N V c) (hc : c < N) {v : Value} (hv : v = V c) : CopyRel w (wr.setCell ⟨B, c, none⟩ v) B N V (c + 1) := by
  subst hv
  obtain ⟨h1, h2, h3, h4⟩ := h
  obtain ⟨u, hu⟩ := (CopyRel.cell ⟨h1, h2, h3, h4⟩ c hc).1
  refine ⟨h1.setCell (Nat.le_refl _) _, by simp [World.setCell, h2], fun j hj => ?_, fun j hj => ?_⟩
  · have := h3 j hj
    refine ⟨?_, by simpa using this.2⟩
    by_cases e : c = 0 + j
    · subst e; rw [World.cell?_setCell_same _ _ _ hu]; rfl
    · rw [World.cell?_setCell_other _ _ _ _ (fun h => e (congrArg Addr.off h))]; exact this.1
  · by_cases e : c = j
    · subst e; rw [World.cell?_setCell_same _ _ _ hu]
    · rw [World.cell?_setCell_other _ _ _ _ (fun h => e (congrArg Addr.off h))]; exact h4 j (by omega)

theorem cells28 : Try.prog.cellsOf 28 = 4 := by kernel_rfl
end Go.Proofs.Qxb6603109a
