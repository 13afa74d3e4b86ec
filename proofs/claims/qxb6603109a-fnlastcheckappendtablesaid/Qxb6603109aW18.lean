import Derived.Test.Qxb6603109aBase2
namespace Go.Proofs.Qxb6603109a
open Go.ChangeShapes Go.WideShapes Go.ChangeAt Go.RowKit

/-- the cells of a row of arrays of m strings, flat -/
def flatM (m : Nat) (J : Nat → Nat → ByteArray) (c : Nat) : Value := .string (J (c / m) (c % m))
theorem flatM_at (m : Nat) (J : Nat → Nat → ByteArray) (i j : Nat) (hj : j < m) : flatM m J (i * m + j) = .string (J i j) := by
  unfold flatM
  rw [Nat.mul_comm i m, Nat.mul_add_div (by omega), Nat.mul_add_mod, Nat.div_eq_of_lt hj, Nat.mod_eq_of_lt hj, Nat.add_zero]

theorem copyM_row {m : Nat} {w wr : World} {B len : Nat} {J : Nat → Nat → ByteArray} (h : CopyRel w wr B (len * m) (flatM m J) (len * m)) : RowM m wr (some ⟨B, 0, none⟩) len J := by
  refine .inr ⟨B, 0, rfl, fun i j hi hj => ?_⟩
  rw [Nat.zero_add, ← flatM_at m J i j hj]
  refine h.2.2.2 (i * m + j) ?_
  have : (i + 1) * m ≤ len * m := Nat.mul_le_mul_right m hi
  rw [Nat.add_mul] at this
  omega

def zero2 : Value := .agg #[.string ByteArray.empty, .string ByteArray.empty]
def zero3 : Value := .agg #[.string ByteArray.empty, .string ByteArray.empty, .string ByteArray.empty]
def made2 (n : Nat) : Array Value := madeCells zero2.cells (n * 2)
def made3 (n : Nat) : Array Value := madeCells zero3.cells (n * 3)
theorem made2_size (n : Nat) : (made2 n).size = n * 2 := size_madeCells _ _
theorem made3_size (n : Nat) : (made3 n).size = n * 3 := size_madeCells _ _
theorem info45 : (Try.prog.info? 45).map (fun i => (i.zero, i.size, i.bytes)) = some (some zero2, 2, 32) := by kernel_rfl
theorem info56 : (Try.prog.info? 56).map (fun i => (i.zero, i.size, i.bytes)) = some (some zero3, 3, 48) := by kernel_rfl

theorem make36 (len : Nat) (hl : len ≤ 8192) (w : World) : (Instr.makeSlice 36 (.int .i64 len) (.int .i64 len)).run Try.prog w = .ok (.slice (some ⟨w.heap.size, 0, none⟩) len len) (w.alloc (.cells (made2 len) 45)) := by
  obtain ⟨i0, hi, hz0, hz1, hz2⟩ := info_parts info45
  have h := run_make (P := Try.prog) w 36 45 i0 zero2 Try.underlying36 hi hz0 .i64 .i64 len len (by omega) (by omega) (by rw [hz2]; omega) (by omega)
  rw [hz1] at h
  simpa [made2] using h
theorem make37 (len : Nat) (hl : len ≤ 8192) (w : World) : (Instr.makeSlice 37 (.int .i64 len) (.int .i64 len)).run Try.prog w = .ok (.slice (some ⟨w.heap.size, 0, none⟩) len len) (w.alloc (.cells (made3 len) 56)) := by
  obtain ⟨i0, hi, hz0, hz1, hz2⟩ := info_parts info56
  have h := run_make (P := Try.prog) w 37 56 i0 zero3 Try.underlying37 hi hz0 .i64 .i64 len len (by omega) (by omega) (by rw [hz2]; omega) (by omega)
  rw [hz1] at h
  simpa [made3] using h

theorem copy2_round {w wr : World} {B N : Nat} {J : Nat → Nat → ByteArray} {k : Nat} (h : CopyRel w wr B N (flatM 2 J) (k * 2)) (hk : k * 2 + 1 < N) :
    CopyRel w ((wr.setCell ⟨B, k * 2, none⟩ (.string (J k 0))).setCell ⟨B, k * 2 + 1, none⟩ (.string (J k 1))) B N (flatM 2 J) ((k + 1) * 2) := by
  have := (h.step (by omega) (flatM_at 2 J k 0 (by omega)).symm).step (by omega) (flatM_at 2 J k 1 (by omega)).symm
  rwa [show (k + 1) * 2 = k * 2 + 1 + 1 by omega]
theorem copy3_round {w wr : World} {B N : Nat} {J : Nat → Nat → ByteArray} {k : Nat} (h : CopyRel w wr B N (flatM 3 J) (k * 3)) (hk : k * 3 + 2 < N) :
    CopyRel w (((wr.setCell ⟨B, k * 3, none⟩ (.string (J k 0))).setCell ⟨B, k * 3 + 1, none⟩ (.string (J k 1))).setCell ⟨B, k * 3 + 2, none⟩ (.string (J k 2))) B N (flatM 3 J) ((k + 1) * 3) := by
  have := ((h.step (by omega) (flatM_at 3 J k 0 (by omega)).symm).step (by omega) (flatM_at 3 J k 1 (by omega)).symm).step (by omega) (flatM_at 3 J k 2 (by omega)).symm
  rwa [show (k + 1) * 3 = k * 3 + 1 + 1 + 1 by omega]

set_option maxHeartbeats 400000 in
theorem copyPairs_some (a : Addr) (len cap : Nat) (J : Nat → Nat → ByteArray) (w : World) (hl : len ≤ 4096) (hr : RowM 2 w a len J) :
    Calls Try.prog 18 #[.slice (some a) len cap] w fun e w' => (e = .returned (.slice (some ⟨w.heap.size, 0, none⟩) len len)) ∧ Below w.heap.size w w' ∧ RowM 2 w' (some ⟨w.heap.size, 0, none⟩) len J := by
  have hnil := nil36
  have hmk := make36 len (by omega)
  go_enter Try.func18, Try.ntmps18
  go_wp2
  go_loopw [4] (fun i wr => ∃ k : Nat, k ≤ len ∧ i = .int .i64 k ∧ CopyRel w wr w.heap.size (len * 2) (flatM 2 J) (k * 2)) (fun i _ => len - (intOf i).toNat)
  case atStart => exact ⟨0, Nat.zero_le _, rfl, by rw [Nat.zero_mul]; exact CopyRel.start w _ _ _ (made2_size len) _⟩
  case round =>
    obtain ⟨k, hk, rfl, hc⟩ := hrel
    by_cases hkl : k < len
    · obtain ⟨b, off, ha, h0, h1⟩ := hr.at2 hkl
      have hb : b < w.heap.size := World.block_lt_of_cell? w _ h0
      obtain ⟨⟨v0, c0⟩, f0⟩ := hc.cell (k * 2) (by omega)
      obtain ⟨⟨v1, c1⟩, f1⟩ := hc.cell (k * 2 + 1) (by omega)
      obtain rfl : a = ⟨b, off, none⟩ := Option.some.inj ha
      rw [← hc.1.cell (p := ⟨b, _, none⟩) hb] at h0 h1
      clear hr ha hmk
      go_wp2
      go_roundw
      case rel => exact ⟨k + 1, by omega, by go_num, copy2_round hc (by omega)⟩
      case measure => simp [intOf]; omega
    · go_wp2
      go_ret
      obtain rfl : k = len := by omega
      exact ⟨rfl, hc.1, copyM_row hc⟩

set_option maxHeartbeats 400000 in
theorem copyTriples_some (a : Addr) (len cap : Nat) (J : Nat → Nat → ByteArray) (w : World) (hl : len ≤ 4096) (hr : RowM 3 w a len J) :
    Calls Try.prog 19 #[.slice (some a) len cap] w fun e w' => (e = .returned (.slice (some ⟨w.heap.size, 0, none⟩) len len)) ∧ Below w.heap.size w w' ∧ RowM 3 w' (some ⟨w.heap.size, 0, none⟩) len J := by
  have hnil := nil37
  have hmk := make37 len (by omega)
  go_enter Try.func19, Try.ntmps19
  go_wp2
  go_loopw [4] (fun i wr => ∃ k : Nat, k ≤ len ∧ i = .int .i64 k ∧ CopyRel w wr w.heap.size (len * 3) (flatM 3 J) (k * 3)) (fun i _ => len - (intOf i).toNat)
  case atStart => exact ⟨0, Nat.zero_le _, rfl, by rw [Nat.zero_mul]; exact CopyRel.start w _ _ _ (made3_size len) _⟩
  case round =>
    obtain ⟨k, hk, rfl, hc⟩ := hrel
    by_cases hkl : k < len
    · obtain ⟨b, off, ha, h0, h1, h2⟩ := hr.at3 hkl
      have hb : b < w.heap.size := World.block_lt_of_cell? w _ h0
      obtain ⟨⟨v0, c0⟩, f0⟩ := hc.cell (k * 3) (by omega)
      obtain ⟨⟨v1, c1⟩, f1⟩ := hc.cell (k * 3 + 1) (by omega)
      obtain ⟨⟨v2, c2⟩, f2⟩ := hc.cell (k * 3 + 2) (by omega)
      obtain rfl : a = ⟨b, off, none⟩ := Option.some.inj ha
      rw [← hc.1.cell (p := ⟨b, _, none⟩) hb] at h0 h1 h2
      clear hr ha hmk
      go_wp2
      go_roundw
      case rel => exact ⟨k + 1, by omega, by go_num, copy3_round hc (by omega)⟩
      case measure => simp [intOf]; omega
    · go_wp2
      go_ret
      obtain rfl : k = len := by omega
      exact ⟨rfl, hc.1, copyM_row hc⟩

theorem copyPairs_nil (cap : Nat) (w : World) : Calls Try.prog 18 #[.slice none 0 cap] w fun e w' => e = .returned (.slice none 0 0) ∧ w' = w := by
  have hnil := nil36
  go_enter Try.func18, Try.ntmps18
  go_wp2
  go_ret
  exact ⟨rfl, rfl⟩
theorem copyTriples_nil (cap : Nat) (w : World) : Calls Try.prog 19 #[.slice none 0 cap] w fun e w' => e = .returned (.slice none 0 0) ∧ w' = w := by
  have hnil := nil37
  go_enter Try.func19, Try.ntmps19
  go_wp2
  go_ret
  exact ⟨rfl, rfl⟩

theorem copyPairs_any (a : Option Addr) (len cap : Nat) (J : Nat → Nat → ByteArray) (w : World) (hl : len ≤ 4096) (hn : a = none → len = 0) (hr : RowM 2 w a len J) :
    Calls Try.prog 18 #[.slice a len cap] w fun e w' => ∃ a' cap', e = .returned (.slice a' len cap') ∧ Below w.heap.size w w' ∧ RowM 2 w' a' len J := by
  cases a with
  | none =>
    obtain rfl := hn rfl
    exact (copyPairs_nil cap w).mono fun e w' ⟨he, hw⟩ => ⟨none, 0, he, hw ▸ Below.refl _ _, .inl rfl⟩
  | some a => exact (copyPairs_some a len cap J w hl hr).mono fun e w' ⟨he, hb, hr⟩ => ⟨_, _, he, hb, hr⟩
theorem copyTriples_any (a : Option Addr) (len cap : Nat) (J : Nat → Nat → ByteArray) (w : World) (hl : len ≤ 4096) (hn : a = none → len = 0) (hr : RowM 3 w a len J) :
    Calls Try.prog 19 #[.slice a len cap] w fun e w' => ∃ a' cap', e = .returned (.slice a' len cap') ∧ Below w.heap.size w w' ∧ RowM 3 w' a' len J := by
  cases a with
  | none =>
    obtain rfl := hn rfl
    exact (copyTriples_nil cap w).mono fun e w' ⟨he, hw⟩ => ⟨none, 0, he, hw ▸ Below.refl _ _, .inl rfl⟩
  | some a => exact (copyTriples_some a len cap J w hl hr).mono fun e w' ⟨he, hb, hr⟩ => ⟨_, _, he, hb, hr⟩
end Go.Proofs.Qxb6603109a
