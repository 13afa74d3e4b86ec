import Derived.Test.Qxb6603109aBase
namespace Go.Proofs.Qxb6603109a
open Go.ChangeShapes Go.WideShapes Go.ChangeAt Go.RowKit

def zero4 : Value := .agg #[.int .i64 0, .string ByteArray.empty, .int .i64 0, .string ByteArray.empty]
def made4 (n : Nat) : Array Value := madeCells zero4.cells (n * 4)
theorem info28 : (Try.prog.info? 28).map (fun i => (i.zero, i.size, i.bytes)) = some (some zero4, 4, 48) := by kernel_rfl

theorem make22 (len : Nat) (hl : len ≤ 8192) (w : World) : (Instr.makeSlice 22 (.int .i64 len) (.int .i64 len)).run Try.prog w = .ok (.slice (some ⟨w.heap.size, 0, none⟩) len len) (w.alloc (.cells (made4 len) 28)) := by
  obtain ⟨i0, hi, hz0, hz1, hz2⟩ := info_parts info28
  have h := run_make (P := Try.prog) w 22 28 i0 zero4 Try.underlying22 hi hz0 .i64 .i64 len len (by omega) (by omega) (by rw [hz2]; omega) (by omega)
  rw [hz1] at h
  simpa [made4] using h

theorem made4_size (n : Nat) : (made4 n).size = n * 4 := size_madeCells _ _

/-- the cells of a row of tries, flat -/
def flat4 (z : Nat → T4) (j : Nat) : Value :=
  match j % 4 with
  | 0 => .int .i64 (z (j / 4)).sc
  | 1 => .string (z (j / 4)).sh
  | 2 => .int .i64 (z (j / 4)).tc
  | _ => .string (z (j / 4)).th
theorem flat4_0 (z : Nat → T4) (i : Nat) : flat4 z (i * 4) = .int .i64 (z i).sc := by
  unfold flat4; rw [show i * 4 % 4 = 0 by omega, show i * 4 / 4 = i by omega]; rfl
theorem flat4_1 (z : Nat → T4) (i : Nat) : flat4 z (i * 4 + 1) = .string (z i).sh := by
  unfold flat4; rw [show (i * 4 + 1) % 4 = 1 by omega, show (i * 4 + 1) / 4 = i by omega]; rfl
theorem flat4_2 (z : Nat → T4) (i : Nat) : flat4 z (i * 4 + 2) = .int .i64 (z i).tc := by
  unfold flat4; rw [show (i * 4 + 2) % 4 = 2 by omega, show (i * 4 + 2) / 4 = i by omega]; rfl
theorem flat4_3 (z : Nat → T4) (i : Nat) : flat4 z (i * 4 + 3) = .string (z i).th := by
  unfold flat4; rw [show (i * 4 + 3) % 4 = 3 by omega, show (i * 4 + 3) / 4 = i by omega]; rfl

theorem copy_round {w wr : World} {B len : Nat} {z : Nat → T4} {k : Nat} (h : CopyRel w wr B (len * 4) (flat4 z) (k * 4)) (hk : k < len) :
    CopyRel w ((((wr.setCell ⟨B, k * 4, none⟩ (.int .i64 (z k).sc)).setCell ⟨B, k * 4 + 1, none⟩ (.string (z k).sh)).setCell ⟨B, k * 4 + 2, none⟩ (.int .i64 (z k).tc)).setCell ⟨B, k * 4 + 3, none⟩ (.string (z k).th)) B (len * 4) (flat4 z) ((k + 1) * 4) := by
  have := (((h.step (by omega) (flat4_0 z k).symm).step (by omega) (flat4_1 z k).symm).step (by omega) (flat4_2 z k).symm).step (by omega) (flat4_3 z k).symm
  rwa [show (k + 1) * 4 = k * 4 + 1 + 1 + 1 + 1 by omega]

theorem copy_row {w wr : World} {B len : Nat} {z : Nat → T4} (h : CopyRel w wr B (len * 4) (flat4 z) (len * 4)) : Row4 wr (some ⟨B, 0, none⟩) len z := by
  refine .inr ⟨B, 0, rfl, fun i hi => ?_⟩
  rw [Nat.zero_add]
  exact ⟨flat4_0 z i ▸ h.2.2.2 (i * 4) (by omega), flat4_1 z i ▸ h.2.2.2 (i * 4 + 1) (by omega), flat4_2 z i ▸ h.2.2.2 (i * 4 + 2) (by omega), flat4_3 z i ▸ h.2.2.2 (i * 4 + 3) (by omega)⟩

set_option maxHeartbeats 400000 in
theorem copyTries_some (a : Addr) (len cap : Nat) (z : Nat → T4) (w : World) (hl : len ≤ 4096) (hr : Row4 w a len z) :
    Calls Try.prog 9 #[.slice (some a) len cap] w fun e w' => (e = .returned (.slice (some ⟨w.heap.size, 0, none⟩) len len)) ∧ Below w.heap.size w w' ∧ w'.heap.size = w.heap.size + 1 ∧ Row4 w' (some ⟨w.heap.size, 0, none⟩) len z := by
  have hnil := nil22
  have hmk := make22 len (by omega)
  go_enter Try.func9, Try.ntmps9
  go_wp2
  go_loopw [4] (fun i wr => ∃ k : Nat, k ≤ len ∧ i = .int .i64 k ∧ CopyRel w wr w.heap.size (len * 4) (flat4 z) (k * 4)) (fun i _ => len - (intOf i).toNat)
  case atStart => exact ⟨0, Nat.zero_le _, rfl, by rw [Nat.zero_mul]; exact CopyRel.start w _ _ _ (made4_size len) _⟩
  case round =>
    obtain ⟨k, hk, rfl, hc⟩ := hrel
    by_cases hkl : k < len
    · obtain ⟨b, off, ha, h0, h1, h2, h3⟩ := hr.at hkl
      have hb : b < w.heap.size := World.block_lt_of_cell? w _ h0
      obtain ⟨⟨v0, c0⟩, f0⟩ := hc.cell (k * 4) (by omega)
      obtain ⟨⟨v1, c1⟩, f1⟩ := hc.cell (k * 4 + 1) (by omega)
      obtain ⟨⟨v2, c2⟩, f2⟩ := hc.cell (k * 4 + 2) (by omega)
      obtain ⟨⟨v3, c3⟩, f3⟩ := hc.cell (k * 4 + 3) (by omega)
      obtain rfl : a = ⟨b, off, none⟩ := by simpa using ha
      rw [← hc.1.cell (p := ⟨b, _, none⟩) hb] at h0 h1 h2 h3
      clear hr ha hmk
      go_wp2
      go_roundw
      case rel => exact ⟨k + 1, by omega, by go_num, copy_round hc hkl⟩
      case measure => simp [intOf]; omega
    · go_wp2
      go_ret
      obtain rfl : k = len := by omega
      exact ⟨rfl, hc.1, hc.2.1, copy_row hc⟩

theorem copyTries_nil (cap : Nat) (w : World) : Calls Try.prog 9 #[.slice none 0 cap] w fun e w' => e = .returned (.slice none 0 0) ∧ w' = w := by
  have hnil := nil22
  go_enter Try.func9, Try.ntmps9
  go_wp2
  go_ret
  exact ⟨rfl, rfl⟩

/-- copyTries, whatever the slice: a row of its own, above all that was there -/
theorem copyTries_any (a : Option Addr) (len cap : Nat) (z : Nat → T4) (w : World) (hl : len ≤ 4096) (hn : a = none → len = 0) (hr : Row4 w a len z) :
    Calls Try.prog 9 #[.slice a len cap] w fun e w' => ∃ a' cap', e = .returned (.slice a' len cap') ∧ Below w.heap.size w w' ∧ Row4 w' a' len z := by
  cases a with
  | none =>
    obtain rfl := hn rfl
    exact (copyTries_nil cap w).mono fun e w' ⟨he, hw⟩ => ⟨none, 0, he, hw ▸ Below.refl _ _, .inl rfl⟩
  | some a => exact (copyTries_some a len cap z w hl hr).mono fun e w' ⟨he, hb, _, hr⟩ => ⟨_, _, he, hb, hr⟩
end Go.Proofs.Qxb6603109a
