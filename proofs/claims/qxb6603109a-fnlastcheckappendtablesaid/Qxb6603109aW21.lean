import Derived.Test.Qxb6603109aNest2
import Derived.Test.Qxb6603109aW24
import Derived.Deep.RegionHeld
namespace Go.Proofs.Qxb6603109a
open Go.ChangeShapes Go.WideShapes Go.ChangeAt Go.RowKit

def zero5 : Value := .agg #[.string ByteArray.empty, .string ByteArray.empty, .slice none 0 0, .slice none 0 0, .slice none 0 0]
def made5 (n : Nat) : Array Value := madeCells zero5.cells (n * 5)
theorem made5_size (n : Nat) : (made5 n).size = n * 5 := size_madeCells _ _
theorem info61 : (Try.prog.info? 61).map (fun i => (i.zero, i.size, i.bytes)) = some (some zero5, 5, 104) := by kernel_rfl
theorem make57 (len : Nat) (hl : len ≤ 8192) (w : World) : (Instr.makeSlice 57 (.int .i64 len) (.int .i64 len)).run Try.prog w = .ok (.slice (some ⟨w.heap.size, 0, none⟩) len len) (w.alloc (.cells (made5 len) 61)) := by
  obtain ⟨i0, hi, hz0, hz1, hz2⟩ := info_parts info61
  have h := run_make (P := Try.prog) w 57 61 i0 zero5 Try.underlying57 hi hz0 .i64 .i64 len len (by omega) (by omega) (by rw [hz2]; omega) (by omega)
  rw [hz1] at h
  simpa [made5] using h

/-- the cells of a row of tables, flat -/
def flatT (J : Nat → Nat → ByteArray) (c : Nat) : Value := if c % 5 = 0 then .string (J (c / 5) 0) else if c % 5 = 1 then .string (J (c / 5) 1) else .slice none 0 0
theorem flatT_0 (J : Nat → Nat → ByteArray) (i : Nat) : flatT J (i * 5) = .string (J i 0) := by
  unfold flatT; rw [if_pos (by omega), show i * 5 / 5 = i by omega]
theorem flatT_1 (J : Nat → Nat → ByteArray) (i : Nat) : flatT J (i * 5 + 1) = .string (J i 1) := by
  unfold flatT; rw [if_neg (by omega), if_pos (by omega), show (i * 5 + 1) / 5 = i by omega]
theorem flatT_2 (J : Nat → Nat → ByteArray) (i j : Nat) (h1 : 2 ≤ j) (h2 : j < 5) : flatT J (i * 5 + j) = .slice none 0 0 := by
  unfold flatT; rw [if_neg (by omega), if_neg (by omega)]

theorem copyT_round {w wr : World} {B N : Nat} {J : Nat → Nat → ByteArray} {k : Nat} (h : CopyRel w wr B N (flatT J) (k * 5)) (hk : k * 5 + 4 < N) :
    CopyRel w (((((wr.setCell ⟨B, k * 5, none⟩ (.string (J k 0))).setCell ⟨B, k * 5 + 1, none⟩ (.string (J k 1))).setCell ⟨B, k * 5 + 2, none⟩ (.slice none 0 0)).setCell ⟨B, k * 5 + 3, none⟩ (.slice none 0 0)).setCell ⟨B, k * 5 + 4, none⟩ (.slice none 0 0)) B N (flatT J) ((k + 1) * 5) := by
  have := ((((h.step (by omega) (flatT_0 J k).symm).step (by omega) (flatT_1 J k).symm).step (by omega) (flatT_2 J k 2 (by omega) (by omega)).symm).step (by omega) (flatT_2 J k 3 (by omega) (by omega)).symm).step (by omega) (flatT_2 J k 4 (by omega) (by omega)).symm
  rwa [show (k + 1) * 5 = k * 5 + 1 + 1 + 1 + 1 + 1 by omega]

theorem CopyRel.drew {w wr : World} {B N : Nat} {V : Nat → Value} {c : Nat} (h : CopyRel w wr B N V c) : CopyRel w wr.drew B N V c := ⟨h.1.drew, h.2⟩

theorem copyT_row {w wr : World} {B len : Nat} {J : Nat → Nat → ByteArray} (h : CopyRel w wr B (len * 5) (flatT J) (len * 5)) : RowT wr (some ⟨B, 0, none⟩) len J := by
  refine .inr ⟨B, 0, rfl, fun i hi => ?_⟩
  rw [Nat.zero_add]
  exact ⟨flatT_0 J i ▸ h.2.2.2 (i * 5) (by omega), flatT_1 J i ▸ h.2.2.2 (i * 5 + 1) (by omega), flatT_2 J i 2 (by omega) (by omega) ▸ h.2.2.2 (i * 5 + 2) (by omega), flatT_2 J i 3 (by omega) (by omega) ▸ h.2.2.2 (i * 5 + 3) (by omega), flatT_2 J i 4 (by omega) (by omega) ▸ h.2.2.2 (i * 5 + 4) (by omega)⟩

theorem RowT.below {w w' : World} {B len : Nat} {J : Nat → Nat → ByteArray} {N : Nat} (h : RowT w (some ⟨B, 0, none⟩) len J) (hB : B < N) (hb : Below N w w') : RowT w' (some ⟨B, 0, none⟩) len J := by
  rcases h with h0 | ⟨b, off, hab, hc⟩
  · exact .inl h0
  · obtain ⟨rfl, rfl, _⟩ := Addr.mk.inj (Option.some.inj hab)
    refine .inr ⟨B, 0, rfl, fun i hi => ?_⟩
    rw [hb.cell (p := ⟨B, _, none⟩) hB, hb.cell (p := ⟨B, _, none⟩) hB, hb.cell (p := ⟨B, _, none⟩) hB, hb.cell (p := ⟨B, _, none⟩) hB, hb.cell (p := ⟨B, _, none⟩) hB]
    exact hc i hi

set_option maxRecDepth 10000 in
set_option maxHeartbeats 1000000 in
theorem zzLastCheck_any (a : Option Addr) (len cap : Nat) (J : Nat → Nat → ByteArray) (a2 : Option Addr) (len2 cap2 : Nat) (U : Nat → Nat → ByteArray) (w : World) (hl : len ≤ 8192) (hr : RowM 2 w a len J) (hl2 : len2 ≤ 8192) (hr2 : RowM 3 w a2 len2 U) :
    Calls Try.prog 21 #[.slice a len cap, .slice a2 len2 cap2] w fun e w' =>
      e = .returned (.tuple #[.int .i64 (lc (fun i => look U len2 (J i 0) (J i 1)) len).1, .int .i64 (lc (fun i => look U len2 (J i 0) (J i 1)) len).2.1, .string (lc (fun i => look U len2 (J i 0) (J i 1)) len).2.2]) ∧ Below w.heap.size w w' := by
  have hmk := make57 len hl
  have hmm := @run_makeMap Try.prog
  go_enter Try.func21, Try.ntmps21
  go_wp2
  go_loopg [8] len (fun g i wr => ∃ k : Nat, g + k = len ∧ i = .int .i64 k ∧ CopyRel w wr w.heap.size (len * 5) (flatT J) (k * 5))
  case atStart => exact ⟨0, by omega, rfl, by rw [Nat.zero_mul]; exact CopyRel.start w _ _ _ (made5_size len) _⟩
  case round =>
    obtain ⟨k, hk, rfl, hc⟩ := hrel
    by_cases hlt : k < len
    · obtain ⟨b, off, rfl, h0, h1⟩ := hr.at2 hlt
      have hb : b < w.heap.size := World.block_lt_of_cell? w _ h0
      obtain ⟨⟨v0, c0⟩, f0⟩ := hc.cell (k * 5) (by omega)
      obtain ⟨⟨v1, c1⟩, f1⟩ := hc.cell (k * 5 + 1) (by omega)
      obtain ⟨⟨v2, c2⟩, f2⟩ := hc.cell (k * 5 + 2) (by omega)
      obtain ⟨⟨v3, c3⟩, f3⟩ := hc.cell (k * 5 + 3) (by omega)
      obtain ⟨⟨v4, c4⟩, f4⟩ := hc.cell (k * 5 + 4) (by omega)
      rw [← hc.1.cell (p := ⟨b, _, none⟩) hb] at h0 h1
      have hkl : (k : Int) < (len : Int) := by omega
      clear hmk hmm hr
      go_wp2_with fail
      go_region
      go_wp2
      go_roundg (len - k - 1)
      case measure => omega
      case rel => exact ⟨k + 1, by omega, by go_num, (copyT_round hc (by omega)).drew⟩
    · obtain rfl : k = len := by omega
      have hT := copyT_row hc
      have hsz := hc.2.1
      have hbw := hc.1
      clear hmk hr hc
      obtain ⟨w2, hw2⟩ : ∃ w2, w2 = wr := ⟨wr, rfl⟩
      subst hw2
      go_wp2
      go_loopg [10] len2 (fun g i w3 => ∃ j : Nat, g + j = len2 ∧ i = .int .i64 j ∧ MS w3 (w.heap.size + 1) (look U j) ∧ Below (w.heap.size + 1) w2 w3)
      case atStart => exact ⟨0, by omega, rfl, hsz ▸ MS.made w2, (Below.refl _ _).alloc (Nat.le_of_eq hsz.symm) _⟩
      case round =>
        obtain ⟨j, hj, rfl, hms, hb3⟩ := hrel
        have hbw3 : Below w.heap.size w wr := hbw.trans (hb3.mono (by omega))
        by_cases hlt2 : j < len2
        · obtain ⟨b, off, rfl, h0, h1, h2⟩ := hr2.at3 hlt2
          have hjl : (j : Int) < (len2 : Int) := by omega
          have hbl : b < w.heap.size := World.block_lt_of_cell? w _ h0
          rw [← hbw3.cell (p := ⟨b, _, none⟩) hbl] at h0 h1 h2
          rcases hms.step (U j 0) (U j 1) (U j 2) with ⟨b', l1, w6, r1, ms', hb6⟩ | ⟨l1, w5, r5, hb5, w6, r6, ms', hb6⟩
          · rw [← look_put] at ms'
            simp only [runV] at r1
            clear hms hr2 hT
            go_wp2_with fail
            go_region
            go_wp2
            go_roundg (len2 - j - 1)
            case measure => omega
            case rel => exact ⟨j + 1, by omega, by go_num, ms', hb3.trans hb6⟩
          · rw [← look_put] at ms'
            simp only [runV] at r6
            have hbl1 : b < w.heap.size + 1 := by omega
            have hbwr : b < wr.heap.size := Nat.lt_of_lt_of_le hbl hbw3.size
            have e0 : w5.cell? ⟨b, off + j * 3, none⟩ = some (.string (U j 0)) := (hb5.cell (p := ⟨b, _, none⟩) hbl1).trans h0
            have e1 : w5.cell? ⟨b, off + j * 3 + 1, none⟩ = some (.string (U j 1)) := (hb5.cell (p := ⟨b, _, none⟩) hbl1).trans h1
            have e2 : w5.cell? ⟨b, off + j * 3 + 2, none⟩ = some (.string (U j 2)) := (hb5.cell (p := ⟨b, _, none⟩) hbl1).trans h2
            clear hms hr2 hT
            go_wp2_with fail
            go_region
            go_wp2
            go_roundg (len2 - j - 1)
            case measure => omega
            case rel => exact ⟨j + 1, by omega, by go_num, ms', hb3.trans hb6⟩
        · obtain rfl : j = len2 := by omega
          have hT3 := hT.below (by omega) hb3
          clear hr2 hT
          go_wp2_with fail
          refine (lastCheck_any (some ⟨w.heap.size, 0, none⟩) k k J (w.heap.size + 1) (look U j) wr hl hT3 hms).mono ?_
          rintro e w' ⟨rfl, hb'⟩
          go_wp2
          go_ret3
          exact ⟨rfl, hbw3.trans (hb'.mono hbw3.size)⟩
end Go.Proofs.Qxb6603109a
