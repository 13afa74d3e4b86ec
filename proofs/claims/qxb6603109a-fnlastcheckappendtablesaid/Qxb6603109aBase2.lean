import Derived.Test.Qxb6603109aBase
import Derived.Deep.LoopGhost
namespace Go.Proofs.Qxb6603109a
open Go.ChangeShapes Go.WideShapes Go.ChangeAt Go.RowKit

/-- the slice value 'a', of 'len' arrays of m strings, leads to the strings J -/
def RowM (m : Nat) (w : World) (a : Option Addr) (len : Nat) (J : Nat → Nat → ByteArray) : Prop :=
  len = 0 ∨ ∃ b off, a = some ⟨b, off, none⟩ ∧ ∀ i j, i < len → j < m → w.cell? ⟨b, off + i * m + j, none⟩ = some (.string (J i j))
def FitM (m len : Nat) (J : Nat → Nat → ByteArray) : Prop := ∀ i j, i < len → j < m → (J i j).size ≤ maxLen

theorem RowM.at {m : Nat} {w : World} {a : Option Addr} {len : Nat} {J : Nat → Nat → ByteArray} (h : RowM m w a len J) {k : Nat} (hk : k < len) :
    ∃ b off, a = some ⟨b, off, none⟩ ∧ ∀ j, j < m → w.cell? ⟨b, off + k * m + j, none⟩ = some (.string (J k j)) := by
  rcases h with h | ⟨b, off, rfl, h⟩
  · omega
  · exact ⟨b, off, rfl, fun j hj => h k j hk hj⟩

theorem RowM.at2 {w : World} {a : Option Addr} {len : Nat} {J : Nat → Nat → ByteArray} (h : RowM 2 w a len J) {k : Nat} (hk : k < len) :
    ∃ b off, a = some ⟨b, off, none⟩ ∧ w.cell? ⟨b, off + k * 2, none⟩ = some (.string (J k 0)) ∧ w.cell? ⟨b, off + k * 2 + 1, none⟩ = some (.string (J k 1)) := by
  obtain ⟨b, off, ha, h⟩ := h.at hk
  exact ⟨b, off, ha, h 0 (by omega), h 1 (by omega)⟩

theorem RowM.at3 {w : World} {a : Option Addr} {len : Nat} {J : Nat → Nat → ByteArray} (h : RowM 3 w a len J) {k : Nat} (hk : k < len) :
    ∃ b off, a = some ⟨b, off, none⟩ ∧ w.cell? ⟨b, off + k * 3, none⟩ = some (.string (J k 0)) ∧ w.cell? ⟨b, off + k * 3 + 1, none⟩ = some (.string (J k 1)) ∧ w.cell? ⟨b, off + k * 3 + 2, none⟩ = some (.string (J k 2)) := by
  obtain ⟨b, off, ha, h⟩ := h.at hk
  exact ⟨b, off, ha, h 0 (by omega), h 1 (by omega), h 2 (by omega)⟩

/-- the row lies below block B -/
def RowMIn (m : Nat) (w : World) (a : Option Addr) (len : Nat) (J : Nat → Nat → ByteArray) (B : Nat) : Prop := RowM m w a len J ∧ ∀ b off, a = some ⟨b, off, none⟩ → 0 < len → b < B

theorem RowMIn.of {m : Nat} {w : World} {a : Option Addr} {len : Nat} {J : Nat → Nat → ByteArray} (hm : 0 < m) (h : RowM m w a len J) : RowMIn m w a len J w.heap.size :=
  ⟨h, fun b off ha hl => by
    obtain ⟨b', off', ha', h0⟩ := h.at hl
    have e : b = b' := by rw [ha] at ha'; exact (Addr.mk.inj (Option.some.inj ha')).1
    subst e
    exact World.block_lt_of_cell? w _ (h0 0 hm)⟩

theorem RowMIn.below {m : Nat} {w w' : World} {a : Option Addr} {len : Nat} {J : Nat → Nat → ByteArray} {B : Nat} (h : RowMIn m w a len J B) (hb : Below B w w') : RowMIn m w' a len J B := by
  refine ⟨?_, h.2⟩
  rcases h.1 with h0 | ⟨b, off, rfl, hc⟩
  · exact .inl h0
  · refine .inr ⟨b, off, rfl, fun i j hi hj => ?_⟩
    have hlt : b < B := h.2 b off rfl (by omega)
    rw [hb.cell (p := ⟨b, _, none⟩) hlt]
    exact hc i j hi hj

theorem RowM.below {m : Nat} {w w' : World} {a : Option Addr} {len : Nat} {J : Nat → Nat → ByteArray} (hm : 0 < m) (h : RowM m w a len J) (hb : Below w.heap.size w w') : RowM m w' a len J := ((RowMIn.of hm h).below hb).1

theorem nil36 (w : World) (a : Option Addr) (n c n' c' : Nat) : (binOp .eql 36 (.slice a n c) (.slice none n' c')).run Try.prog w = .ok (.bool a.isNone) w :=
  Lib.run_eql_slice_nil w _ _ a n c n' c' Try.underlying36
theorem nil37 (w : World) (a : Option Addr) (n c n' c' : Nat) : (binOp .eql 37 (.slice a n c) (.slice none n' c')).run Try.prog w = .ok (.bool a.isNone) w :=
  Lib.run_eql_slice_nil w _ _ a n c n' c' Try.underlying37
end Go.Proofs.Qxb6603109a
