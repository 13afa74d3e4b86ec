import Derived.Test.Qxb6001667aDiv
import Derived.Deep.LoopGhost
import Derived.Deep.CutRange
namespace Go.Proofs.Qxb6001667a
open Go.ChangeShapes Go.WideShapes Go.ChangeAt Go.RowKit

/-! ### law 3: divide is floor division -/
theorem div_plain {a b : Int} (hb : 1 ≤ b) : a / b * b + a % b = a ∧ (a + b) / b = a / b + 1 ∧ (a + b) % b = a % b := by
  refine ⟨?_, ?_, ?_⟩
  · rw [Int.mul_comm, Int.mul_ediv_add_emod]
  · rw [Int.add_ediv_of_dvd_right (Int.dvd_refl b), Int.ediv_self (by omega)]
  · exact Int.add_emod_right a b

set_option maxHeartbeats 400000 in
theorem law3_any (a b : Int) (w : World) (wa0 : -9223372036854775808 ≤ a) (wa1 : a ≤ 9223372036854775807) (wb0 : -9223372036854775808 ≤ b) (wb1 : b ≤ 9223372036854775807) :
    Calls Try.prog 3 #[.int .i64 a, .int .i64 b] w fun e w' => e = .returned (.bool true) ∧ Drawn w w' := by
  by_cases hb : 1 ≤ b ∧ b ≤ 65536
  · obtain ⟨hb0, hb1⟩ := hb
    by_cases ha : -1073741824 ≤ a ∧ a ≤ 1073741824
    · obtain ⟨ha0, ha1⟩ := ha
      have hbd := t_bd hb0 (show -4294967296 ≤ a by omega) (show a ≤ 4294967296 by omega)
      obtain ⟨p1, p2, p3⟩ := div_plain (a := a) hb0
      have P1 := Hid.mk p1
      have P2 := Hid.mk p2
      have P3 := Hid.mk p3
      have hm : a / b * b = a - a % b := by omega
      clear p1 p2 p3
      go_enter Try.func3, Try.ntmps3
      go_wp2_with fail
      refine (zzdivide_any a b w hb0 hb1 (by omega) (by omega)).mono ?_
      rintro e w1 ⟨rfl, hd1⟩
      go_wp2_with fail
      refine (zzdivide_any (a + b) b w1 hb0 hb1 (by omega) (by omega)).mono ?_
      rintro e w2 ⟨rfl, hd2⟩
      rw [P2.out, P3.out]
      go_wp2_with fail
      go_ret
      exact ⟨rfl, hd1.trans hd2⟩
    · by_cases ha0 : -1073741824 ≤ a
      · have ha1 : ¬ a ≤ 1073741824 := fun h => ha ⟨ha0, h⟩
        clear ha
        go_enter Try.func3, Try.ntmps3
        go_wp2
        go_ret
        exact ⟨rfl, .refl _⟩
      · clear ha
        go_enter Try.func3, Try.ntmps3
        go_wp2
        go_ret
        exact ⟨rfl, .refl _⟩
  · by_cases hb0 : 1 ≤ b
    · have hb1 : ¬ b ≤ 65536 := fun h => hb ⟨hb0, h⟩
      clear hb
      go_enter Try.func3, Try.ntmps3
      go_wp2
      go_ret
      exact ⟨rfl, .refl _⟩
    · clear hb
      go_enter Try.func3, Try.ntmps3
      go_wp2
      go_ret
      exact ⟨rfl, .refl _⟩

/-! ### law 5: firstWeekday counts weekdays -/
theorem fw_succ (x : Int) : fw (x + 1) = fw x + if dow x < 5 then 1 else 0 := by unfold fw dow wk; omega
theorem fw_week (x : Int) : fw (x + 7) = fw x + 5 := by unfold fw dow wk; omega
theorem fw_bd {d : Int} (h0 : -1073741824 ≤ d) (h1 : d ≤ 1073741824) : -1073741824 ≤ fw d ∧ fw d ≤ 1073741824 := by unfold fw dow wk; omega
theorem fw_le {x y : Int} (h : x ≤ y) : fw x ≤ fw y ∧ fw y - fw x ≤ y - x := by unfold fw dow wk; omega

set_option maxHeartbeats 1000000 in
theorem law5_in (a0 b0 : Int) (w : World) (ha0 : -268435456 ≤ a0) (ha1 : a0 ≤ 268435456) (hb0 : -268435456 ≤ b0) (hb1 : b0 ≤ 268435456) :
    Calls Try.prog 5 #[.int .i64 a0, .int .i64 b0] w fun e w' => e = .returned (.bool true) ∧ Drawn w w' := by
  go_enter Try.func5, Try.ntmps5
  go_upto_if 23 with fail
  go_cut [0, 1] from 21 to 25 (fun x y wr => w = wr ∧ ∃ a b : Int, -268435456 ≤ a ∧ a ≤ b ∧ b ≤ 268435456 ∧ x = .int .i64 a ∧ y = .int .i64 b)
  case first =>
    by_cases hab : b0 < a0
    · go_wp2_with fail
      go_meet
      case rel => exact ⟨rfl, b0, a0, by omega, by omega, by omega, rfl, rfl⟩
    · go_wp2_with fail
      go_meet
      case rel => exact ⟨rfl, a0, b0, by omega, by omega, by omega, rfl, rfl⟩
  case rest =>
    obtain ⟨hw, a, b, h1, h2, h3, rfl, rfl⟩ := hcut
    subst hw
    by_cases h12 : b - a ≤ 4096
    · go_wp2_with fail
      go_loopg [5, 6] (b - a).toNat (fun g c i wr => w = wr ∧ ∃ x : Int, (g : Int) = b - x ∧ a ≤ x ∧ x ≤ b ∧ c = .int .i64 (fw x - fw a) ∧ i = .int .i64 x)
      case atStart => exact ⟨rfl, a, by omega, by omega, by omega, by rw [Int.sub_self], rfl⟩
      case round =>
        obtain ⟨hw, x, hg, hx0, hx1, rfl, rfl⟩ := hrel
        subst hw
        have hle := fw_le hx0
        by_cases hlt : x < b
        · have hs := Hid.mk (fw_succ x)
          by_cases hd : dow x < 5
          · go_wp2_with fail
            refine (dow_any x w (by omega) (by omega)).mono ?_
            rintro e w' ⟨rfl, rfl⟩
            go_wp2_with fail
            go_roundg (gk - 1)
            case measure => omega
            case rel => exact ⟨rfl, x + 1, by omega, by omega, by omega, by rw [hs.out, if_pos hd]; go_num, rfl⟩
          · go_wp2_with fail
            refine (dow_any x w (by omega) (by omega)).mono ?_
            rintro e w' ⟨rfl, rfl⟩
            go_wp2_with fail
            go_roundg (gk - 1)
            case measure => omega
            case rel => exact ⟨rfl, x + 1, by omega, by omega, by omega, by rw [hs.out, if_neg (by omega)]; go_num, rfl⟩
        · obtain rfl : x = b := by omega
          have hfa := fw_bd (show -1073741824 ≤ a by omega) (show a ≤ 1073741824 by omega)
          have hfx := fw_bd (show -1073741824 ≤ x by omega) (show x ≤ 1073741824 by omega)
          have h7 := Hid.mk (fw_week a)
          go_wp2_with fail
          refine (fw_any x w (by omega) (by omega)).mono ?_
          rintro e w1 ⟨rfl, hd1⟩
          go_wp2_with fail
          refine (fw_any a w1 (by omega) (by omega)).mono ?_
          rintro e w2 ⟨rfl, hd2⟩
          go_wp2_with fail
          refine (fw_any (a + 7) w2 (by omega) (by omega)).mono ?_
          rintro e w3 ⟨rfl, hd3⟩
          rw [h7.out]
          go_wp2_with fail
          refine (fw_any a w3 (by omega) (by omega)).mono ?_
          rintro e w4 ⟨rfl, hd4⟩
          go_wp2_with fail
          go_ret
          exact ⟨rfl, ((hd1.trans hd2).trans hd3).trans hd4⟩
    · go_wp2
      go_ret
      exact ⟨rfl, .refl _⟩

theorem law5_any (a b : Int) (w : World) : Calls Try.prog 5 #[.int .i64 a, .int .i64 b] w fun e w' => e = .returned (.bool true) ∧ Drawn w w' := by
  by_cases c1 : -268435456 ≤ a
  · by_cases c2 : a ≤ 268435456
    · by_cases c3 : -268435456 ≤ b
      · by_cases c4 : b ≤ 268435456
        · exact law5_in a b w c1 c2 c3 c4
        · go_enter Try.func5, Try.ntmps5
          go_wp2
          go_ret
          exact ⟨rfl, .refl _⟩
      · go_enter Try.func5, Try.ntmps5
        go_wp2
        go_ret
        exact ⟨rfl, .refl _⟩
    · go_enter Try.func5, Try.ntmps5
      go_wp2
      go_ret
      exact ⟨rfl, .refl _⟩
  · go_enter Try.func5, Try.ntmps5
    go_wp2
    go_ret
    exact ⟨rfl, .refl _⟩

/-! ### law 4: the first weekday on or after -/
theorem day_plain (d : Int) : d ≤ wd (fw d) ∧ wd (fw d) - d ≤ 2 ∧ dow (wd (fw d)) < 5 ∧ fw (wd (fw d)) = fw d ∧ lw (wd (fw d)) = fw d ∧ (lw d = fw d ∨ lw d = fw d - 1) ∧ ∀ x, d ≤ x → x < wd (fw d) → 5 ≤ dow x := by
  unfold wd lw fw dow wk
  refine ⟨by omega, by omega, by omega, by omega, by omega, by omega, fun x h1 h2 => by omega⟩

set_option maxHeartbeats 1000000 in
theorem law4_in (d : Int) (w : World) (hd0 : -268435456 ≤ d) (hdd : d ≤ 268435456) :
    Calls Try.prog 4 #[.int .i64 d] w fun e w' => e = .returned (.bool true) ∧ Drawn w w' := by
  obtain ⟨p1, p2, p3, p4, p5, p6, p7⟩ := day_plain d
  have hn := fw_bd (show -1073741824 ≤ d by omega) (show d ≤ 1073741824 by omega)
  have P4 := Hid.mk p4
  have P5 := Hid.mk p5
  have P7 := Hid.mk p7
  clear p4 p5 p7
  obtain ⟨n, hnn⟩ : ∃ n, fw d = n := ⟨_, rfl⟩
  rw [hnn] at p1 p2 p3 p6 P4 P5 P7 hn
  obtain ⟨e, hee⟩ : ∃ e, wd n = e := ⟨_, rfl⟩
  rw [hee] at p1 p2 p3 P4 P5 P7
  have HN := Hid.mk hnn
  have HE := Hid.mk hee
  clear hnn hee
  go_enter Try.func4, Try.ntmps4
  go_wp2_with fail
  refine (fw_any d w (by omega) (by omega)).mono ?_
  rintro e' w1 ⟨rfl, hd1⟩
  rw [HN.out]
  go_wp2_with fail
  refine (wd_any n w1 (by omega) (by omega)).mono ?_
  rintro e' w2 ⟨rfl, hd2⟩
  rw [HE.out]
  go_wp2_with fail
  refine (dow_any e w2 (by omega) (by omega)).mono ?_
  rintro e' w' ⟨rfl, rfl⟩
  go_wp2_with fail
  go_loopg [5] (e - d).toNat (fun g i wr => w2 = wr ∧ ∃ x : Int, (g : Int) = e - x ∧ d ≤ x ∧ x ≤ e ∧ i = .int .i64 x)
  case atStart => exact ⟨rfl, d, by omega, by omega, by omega, rfl⟩
  case round =>
    obtain ⟨hw, x, hg, hx0, hx1, rfl⟩ := hrel
    subst hw
    by_cases hlt : x < e
    · have h5 := P7.out x hx0 hlt
      go_wp2_with fail
      refine (dow_any x w2 (by omega) (by omega)).mono ?_
      rintro e' w' ⟨rfl, rfl⟩
      go_wp2_with fail
      go_roundg (gk - 1)
      case measure => omega
      case rel => exact ⟨rfl, x + 1, by omega, by omega, by omega, rfl⟩
    · go_wp2_with fail
      refine (fw_any e w2 (by omega) (by omega)).mono ?_
      rintro e' w3 ⟨rfl, hd3⟩
      rw [P4.out]
      go_wp2_with fail
      refine (lw_any e w3 (by omega) (by omega)).mono ?_
      rintro e' w4 ⟨rfl, hd4⟩
      rw [P5.out]
      go_wp2_with fail
      refine (lw_any d w4 (by omega) (by omega)).mono ?_
      rintro e' w5 ⟨rfl, hd5⟩
      rcases p6 with p6 | p6
      · rw [p6]
        go_wp2_with fail
        go_ret
        exact ⟨rfl, (((hd1.trans hd2).trans hd3).trans hd4).trans hd5⟩
      · rw [p6]
        have hne : (n - 1 == n) = false := beq_eq_false_iff_ne.2 (by omega)
        go_wp2_with fail
        go_ret
        exact ⟨rfl, (((hd1.trans hd2).trans hd3).trans hd4).trans hd5⟩

theorem law4_any (d : Int) (w : World) : Calls Try.prog 4 #[.int .i64 d] w fun e w' => e = .returned (.bool true) ∧ Drawn w w' := by
  by_cases c1 : -268435456 ≤ d
  · by_cases c2 : d ≤ 268435456
    · exact law4_in d w c1 c2
    · go_enter Try.func4, Try.ntmps4
      go_wp2
      go_ret
      exact ⟨rfl, .refl _⟩
  · go_enter Try.func4, Try.ntmps4
    go_wp2
    go_ret
    exact ⟨rfl, .refl _⟩
end Go.Proofs.Qxb6001667a
