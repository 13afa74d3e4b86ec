import Derived.Test.Qxb6001667aRows
import Derived.WalkKit
import Derived.ProofKit
import Derived.WalkSpells
import Derived.WalkLawsBesides
import Derived.WalkSmall
import Derived.Deep.QuietTactic
import Derived.BigQuiet
namespace Go.Proofs.Qxb6001667a
open Go.ChangeShapes Go.WideShapes Go.ChangeAt Go.RowKit

/-! ### plain: Go's division, rounded down -/
theorem t_pos {a b : Int} (hb : 0 < b) (h : 0 ≤ a.tmod b) : a.tdiv b = a / b ∧ a.tmod b = a % b := by
  rw [Int.tmod_eq_emod] at h
  have h1 := Int.emod_lt_of_pos a hb
  have hn : (b.natAbs : Int) = b := Int.natAbs_of_nonneg (by omega)
  rw [Int.tdiv_eq_ediv, Int.tmod_eq_emod]
  by_cases c : 0 ≤ a ∨ b ∣ a
  · simp [c]
  · rw [if_neg c] at h; omega
theorem t_neg {a b : Int} (hb : 0 < b) (h : a.tmod b < 0) : a.tdiv b - 1 = a / b ∧ a.tmod b + b = a % b := by
  rw [Int.tmod_eq_emod] at h
  have h1 := Int.emod_nonneg a (show b ≠ 0 by omega)
  have hn : (b.natAbs : Int) = b := Int.natAbs_of_nonneg (by omega)
  rw [Int.tdiv_eq_ediv, Int.tmod_eq_emod]
  by_cases c : 0 ≤ a ∨ b ∣ a
  · rw [if_pos c] at h; omega
  · rw [if_neg c, if_neg c]
    have : b.sign = 1 := Int.sign_eq_one_of_pos hb
    omega
theorem t_bd {a b : Int} (hb : 1 ≤ b) (h0 : -4294967296 ≤ a) (h1 : a ≤ 4294967296) : -4294967297 ≤ a / b ∧ a / b ≤ 4294967296 ∧ 0 ≤ a % b ∧ a % b < b := by
  have e := Int.emod_add_mul_ediv a b
  have e1 := Int.emod_nonneg a (show b ≠ 0 by omega)
  have e2 := Int.emod_lt_of_pos a (show 0 < b by omega)
  refine ⟨?_, ?_, e1, e2⟩
  · rcases Int.lt_or_le a 0 with h | h
    · have : a ≤ a / b := Int.le_ediv_of_mul_le (by omega) (by
        have := Int.mul_le_mul_of_nonpos_left (show a ≤ 0 by omega) hb; omega)
      omega
    · have := Int.ediv_nonneg h (show 0 ≤ b by omega); omega
  · rcases Int.lt_or_le a 0 with h | h
    · have := Int.ediv_neg_of_neg_of_pos h (show 0 < b by omega); omega
    · have := Int.ediv_le_self b h; omega

theorem Hid.mk {p : Prop} (h : p) : Hid p := h

theorem ret_pair {a b c d : Int} (h1 : a = c) (h2 : b = d) : Ending.returned (.tuple #[.int .i64 a, .int .i64 b]) = .returned (.tuple #[.int .i64 c, .int .i64 d]) := by rw [h1, h2]
theorem ret_int {a b : Int} (h : a = b) : Ending.returned (.int .i64 a) = .returned (.int .i64 b) := by rw [h]
theorem w64 {x y : Int} (h : x = y) (h0 : -9223372036854775808 ≤ y) (h1 : y ≤ 9223372036854775807) : wrap64 x = y := by
  subst h; unfold wrap64; omega

/-- w' is w behind some draws -/
def Drawn (w w' : World) : Prop := ∃ n, w' = w.drewN n
theorem Drawn.refl (w : World) : Drawn w w := ⟨0, rfl⟩
theorem Drawn.mk (w : World) (n : Nat) : Drawn w (w.drewN n) := ⟨n, rfl⟩
theorem Drawn.trans {a b c : World} (h1 : Drawn a b) (h2 : Drawn b c) : Drawn a c := by
  obtain ⟨n, rfl⟩ := h1
  obtain ⟨m, rfl⟩ := h2
  exact ⟨n + m, World.drewN_drewN a n m⟩
theorem Drawn.grown {a b : World} (h : Drawn a b) : Grown a b := by
  obtain ⟨n, rfl⟩ := h
  exact Grown.refl a

set_option maxHeartbeats 400000 in
theorem divide_any (a b : Int) (w : World) (hb : 1 ≤ b) (hb1 : b ≤ 65536) (h0 : -4294967296 ≤ a) (h1 : a ≤ 4294967296) :
    Calls Try.prog 11 #[.int .i64 a, .int .i64 b] w fun e w' => e = .returned (.tuple #[.int .i64 (a / b), .int .i64 (a % b)]) ∧ Drawn w w' := by
  have hbd := t_bd hb h0 h1
  have hb0 : (b == 0) = false := beq_eq_false_iff_ne.2 (by omega)
  by_cases hn : a.tmod b < 0
  · have ht := Hid.mk (t_neg (show 0 < b by omega) hn)
    go_enter Try.func11, Try.ntmps11
    go_wp2
    go_quiet (fail)
    go_wp2
    go_ret2
    exact ⟨ret_pair (w64 ht.out.1 (by omega) (by omega)) (w64 ht.out.2 (by omega) (by omega)), .mk _ _⟩
  · have ht := Hid.mk (t_pos (show 0 < b by omega) (show 0 ≤ a.tmod b by omega))
    go_enter Try.func11, Try.ntmps11
    go_wp2
    go_quiet (fail)
    go_wp2
    go_ret2
    exact ⟨ret_pair ht.out.1 ht.out.2, .mk _ _⟩

theorem zzdivide_any (a b : Int) (w : World) (hb : 1 ≤ b) (hb1 : b ≤ 65536) (h0 : -4294967296 ≤ a) (h1 : a ≤ 4294967296) :
    Calls Try.prog 6 #[.int .i64 a, .int .i64 b] w fun e w' => e = .returned (.tuple #[.int .i64 (a / b), .int .i64 (a % b)]) ∧ Drawn w w' := by
  go_enter Try.func6, Try.ntmps6
  go_wp2_with fail
  refine (divide_any a b w hb hb1 h0 h1).mono ?_
  rintro e w' ⟨rfl, hd⟩
  go_wp2
  go_ret2
  exact ⟨rfl, hd⟩

/-! ### the days -/
def wk (d : Int) : Int := (d - 4) / 7
def dow (d : Int) : Int := (d - 4) % 7
theorem week_any (d : Int) (w : World) (h0 : -1073741824 ≤ d) (h1 : d ≤ 1073741824) :
    Calls Try.prog 15 #[.int .i64 d] w fun e w' => e = .returned (.tuple #[.int .i64 (wk d), .int .i64 (dow d)]) ∧ Drawn w w' := by
  go_enter Try.func15, Try.ntmps15
  go_wp2_with fail
  refine (divide_any (d - 4) 7 w (by omega) (by omega) (by omega) (by omega)).mono ?_
  rintro e w' ⟨rfl, hd⟩
  go_wp2
  go_ret2
  exact ⟨rfl, hd⟩

def fw (d : Int) : Int := if 4 < dow d then 5 * (wk d + 1) else 5 * wk d + dow d
def lw (d : Int) : Int := 5 * wk d + min (dow d) 4
def wd (n : Int) : Int := 4 + 7 * (n / 5) + n % 5
theorem wk_bd {d : Int} (h0 : -1073741824 ≤ d) (h1 : d ≤ 1073741824) : -1073741824 ≤ wk d ∧ wk d ≤ 1073741824 ∧ 0 ≤ dow d ∧ dow d < 7 := by
  unfold wk dow; omega

theorem fw_any (d : Int) (w : World) (h0 : -1073741824 ≤ d) (h1 : d ≤ 1073741824) :
    Calls Try.prog 7 #[.int .i64 d] w fun e w' => e = .returned (.int .i64 (fw d)) ∧ Drawn w w' := by
  have hbd := wk_bd h0 h1
  by_cases hc : 4 < dow d
  · have hF : Hid (fw d = 5 * (wk d + 1)) := by unfold Hid fw; rw [if_pos hc]
    go_enter Try.func7, Try.ntmps7
    go_wp2_with (first | (go_at_call 15; refine (week_any d _ h0 h1).mono ?_; rintro e w' ⟨rfl, hd⟩) | go_in)
    go_ret
    exact ⟨ret_int hF.out.symm, hd⟩
  · have hF : Hid (fw d = 5 * wk d + dow d) := by unfold Hid fw; rw [if_neg hc]
    go_enter Try.func7, Try.ntmps7
    go_wp2_with (first | (go_at_call 15; refine (week_any d _ h0 h1).mono ?_; rintro e w' ⟨rfl, hd⟩) | go_in)
    go_ret
    exact ⟨ret_int hF.out.symm, hd⟩

theorem lw_any (d : Int) (w : World) (h0 : -1073741824 ≤ d) (h1 : d ≤ 1073741824) :
    Calls Try.prog 10 #[.int .i64 d] w fun e w' => e = .returned (.int .i64 (lw d)) ∧ Drawn w w' := by
  have hbd := wk_bd h0 h1
  go_enter Try.func10, Try.ntmps10
  go_wp2_with (first | (go_at_call 15; refine (week_any d _ h0 h1).mono ?_; rintro e w' ⟨rfl, hd⟩) | go_in)
  all_goals
    go_ret
    exact ⟨ret_int (by unfold lw; omega), hd⟩

theorem wd_any (n : Int) (w : World) (h0 : -1073741824 ≤ n) (h1 : n ≤ 1073741824) :
    Calls Try.prog 8 #[.int .i64 n] w fun e w' => e = .returned (.int .i64 (wd n)) ∧ Drawn w w' := by
  have hbd : -1073741824 ≤ n / 5 ∧ n / 5 ≤ 1073741824 ∧ 0 ≤ n % 5 ∧ n % 5 < 5 := by omega
  go_enter Try.func8, Try.ntmps8
  go_wp2_with (first | (go_at_call 11; refine (divide_any n 5 _ (by omega) (by omega) (by omega) (by omega)).mono ?_; rintro e w' ⟨rfl, hd⟩) | go_in)
  go_ret
  exact ⟨rfl, hd⟩

theorem dow_any (x : Int) (w : World) (h0 : -1073741824 ≤ x) (h1 : x ≤ 1073741824) :
    Calls Try.prog 9 #[.int .i64 x] w fun e w' => e = .returned (.int .i64 (dow x)) ∧ w = w' := by
  by_cases hn : (x - 4).tmod 7 < 0
  · have ht := Hid.mk (t_neg (show (0 : Int) < 7 by omega) hn)
    have hlo : -7 ≤ (x - 4).tmod 7 := by have := ht.out.2; omega
    go_enter Try.func9, Try.ntmps9
    go_wp2
    go_ret
    exact ⟨ret_int ht.out.2, rfl⟩
  · have ht := Hid.mk (t_pos (show (0 : Int) < 7 by omega) (show 0 ≤ (x - 4).tmod 7 by omega))
    go_enter Try.func9, Try.ntmps9
    go_wp2
    go_ret
    exact ⟨ret_int ht.out.2, rfl⟩
end Go.Proofs.Qxb6001667a
