import Derived.Test.Qxb6601942aRows
import Derived.WalkKit
import Derived.ProofKit
import Derived.WalkSpells
import Derived.WalkLawsBesides
import Derived.Deep.LoopGhost
namespace Go.Proofs.Qxb6601942a
open Go.ChangeShapes Go.WideShapes Go.ChangeAt Go.RowKit

theorem Hid.mk {p : Prop} (h : p) : Hid p := h
theorem ret_bool {a b : Bool} (h : a = b) : Ending.returned (.bool a) = .returned (.bool b) := by rw [h]

/-! ### plain: digits, counted -/
def digB (c : Int) : Bool := decide (48 ≤ c ∧ c ≤ 57)
def byteAt (s : ByteArray) (k : Nat) : Int := if h : k < s.size then (s[k].toNat : Int) else 0
theorem byteAt_lt {s : ByteArray} {k : Nat} (h : k < s.size) : byteAt s k = (s[k].toNat : Int) := by unfold byteAt; rw [dif_pos h]
def cnt (s : ByteArray) : Nat → Nat
  | 0 => 0
  | k + 1 => cnt s k + if digB (byteAt s k) = true then 1 else 0
theorem cnt_succ (s : ByteArray) (k : Nat) : cnt s (k + 1) = cnt s k + if digB (byteAt s k) = true then 1 else 0 := rfl
theorem cnt_le (s : ByteArray) : ∀ k, cnt s k ≤ k
  | 0 => Nat.le_refl _
  | k + 1 => by have := cnt_le s k; unfold cnt; split <;> omega
theorem cnt_lt {s : ByteArray} {k : Nat} (h : digB (byteAt s k) = false) : ∀ n, k < n → cnt s n < n
  | 0, hk => by omega
  | n + 1, hk => by
    unfold cnt
    by_cases e : k = n
    · subst e; have := cnt_le s k; simp [h]; omega
    · have := cnt_lt h n (by omega); split <;> omega
theorem cnt_yes {s : ByteArray} {k : Nat} (h : digB (byteAt s k) = true) : cnt s (k + 1) = cnt s k + 1 := by rw [cnt_succ, if_pos h]
theorem cnt_no {s : ByteArray} {k : Nat} (h : digB (byteAt s k) = false) : cnt s (k + 1) = cnt s k := by rw [cnt_succ, h]; rfl

set_option maxHeartbeats 1000000 in
theorem isDec_any (c : Int) (w : World) : Calls Try.prog 15 #[.int .u8 c] w fun e w' => e = .returned (.bool (digB c)) ∧ w = w' := by
  by_cases hd : 48 ≤ c ∧ c ≤ 57
  · have hc : c = 48 ∨ c = 49 ∨ c = 50 ∨ c = 51 ∨ c = 52 ∨ c = 53 ∨ c = 54 ∨ c = 55 ∨ c = 56 ∨ c = 57 := by omega
    clear hd
    rcases hc with rfl | rfl | rfl | rfl | rfl | rfl | rfl | rfl | rfl | rfl
    all_goals
      go_enter Try.func15, Try.ntmps15
      go_wp2
      go_ret
      exact ⟨ret_bool rfl, rfl⟩
  · have hF := Hid.mk (show false = digB c by unfold digB; rw [decide_eq_false hd])
    have n48 : (c == 48) = false := beq_eq_false_iff_ne.2 (by omega)
    have n49 : (c == 49) = false := beq_eq_false_iff_ne.2 (by omega)
    have n50 : (c == 50) = false := beq_eq_false_iff_ne.2 (by omega)
    have n51 : (c == 51) = false := beq_eq_false_iff_ne.2 (by omega)
    have n52 : (c == 52) = false := beq_eq_false_iff_ne.2 (by omega)
    have n53 : (c == 53) = false := beq_eq_false_iff_ne.2 (by omega)
    have n54 : (c == 54) = false := beq_eq_false_iff_ne.2 (by omega)
    have n55 : (c == 55) = false := beq_eq_false_iff_ne.2 (by omega)
    have n56 : (c == 56) = false := beq_eq_false_iff_ne.2 (by omega)
    have n57 : (c == 57) = false := beq_eq_false_iff_ne.2 (by omega)
    clear hd
    go_enter Try.func15, Try.ntmps15
    go_wp2
    go_ret
    exact ⟨ret_bool hF.out, rfl⟩

theorem isDec_is {c : Int} {b : Bool} (h : digB c = b) (w : World) : Calls Try.prog 15 #[.int .u8 c] w fun e w' => e = .returned (.bool b) ∧ w = w' := by
  subst h; exact isDec_any c w

set_option maxHeartbeats 400000 in
theorem count_any (s : ByteArray) (w : World) (hs : s.size ≤ 1048576) : Calls Try.prog 11 #[.string s] w fun e w' => e = .returned (.int .i64 (cnt s s.size)) ∧ w = w' := by
  go_enter Try.func11, Try.ntmps11
  go_wp2
  go_loopg [3, 4] s.size (fun g t i wr => w = wr ∧ ∃ k : Nat, g + k = s.size ∧ i = .int .i64 k ∧ t = .int .i64 (cnt s k))
  case atStart => exact ⟨rfl, 0, by omega, rfl, rfl⟩
  case round =>
    obtain ⟨hw, k, hk, rfl, rfl⟩ := hrel
    subst hw
    have hc := cnt_le s k
    by_cases hlt : k < s.size
    · cases hb : digB (byteAt s k)
      · have HN := Hid.mk (cnt_no hb)
        have HB := Hid.mk (show digB (s[k].toNat : Int) = false by rw [← byteAt_lt hlt]; exact hb)
        clear hb
        go_wp2_with fail
        refine (isDec_is HB.out w).mono ?_
        rintro e w' ⟨rfl, rfl⟩
        go_wp2_with fail
        go_roundg (gk - 1)
        case measure => omega
        case rel => exact ⟨rfl, k + 1, by omega, by go_num, by rw [HN.out]⟩
      · have HN := Hid.mk (cnt_yes hb)
        have HB := Hid.mk (show digB (s[k].toNat : Int) = true by rw [← byteAt_lt hlt]; exact hb)
        clear hb
        go_wp2_with fail
        refine (isDec_is HB.out w).mono ?_
        rintro e w' ⟨rfl, rfl⟩
        go_wp2_with fail
        go_roundg (gk - 1)
        case measure => omega
        case rel => exact ⟨rfl, k + 1, by omega, by go_num, by rw [HN.out]; go_num⟩
    · obtain rfl : k = s.size := by omega
      go_wp2
      go_ret
      exact ⟨rfl, rfl⟩

set_option maxHeartbeats 400000 in
theorem all_any (s : ByteArray) (w : World) (hs : s.size ≤ 1048576) : Calls Try.prog 10 #[.string s] w fun e w' => e = .returned (.bool (decide (cnt s s.size = s.size))) ∧ w = w' := by
  go_enter Try.func10, Try.ntmps10
  go_wp2
  go_loopg [6] s.size (fun g i wr => w = wr ∧ ∃ k : Nat, g + k = s.size ∧ i = .int .i64 k ∧ Hid (cnt s k = k))
  case atStart => exact ⟨rfl, 0, by omega, rfl, rfl⟩
  case round =>
    obtain ⟨hw, k, hk, rfl, hc⟩ := hrel
    subst hw
    by_cases hlt : k < s.size
    · cases hb : digB (byteAt s k)
      · have HN := Hid.mk (show false = decide (cnt s s.size = s.size) by rw [decide_eq_false]; have := cnt_lt hb s.size hlt; omega)
        rw [byteAt_lt hlt] at hb
        unfold digB at hb
        have hb' : ¬ (48 ≤ (s[k].toNat : Int) ∧ (s[k].toNat : Int) ≤ 57) := of_decide_eq_false hb
        clear hb
        by_cases h48 : (s[k].toNat : Int) < 48
        · clear hb'
          go_wp2
          go_ret
          exact ⟨ret_bool HN.out, rfl⟩
        · have h57 : 57 < (s[k].toNat : Int) := by omega
          clear hb'
          go_wp2
          go_ret
          exact ⟨ret_bool HN.out, rfl⟩
      · have HN := Hid.mk (cnt_yes hb)
        rw [byteAt_lt hlt] at hb
        unfold digB at hb
        obtain ⟨h48, h57⟩ : 48 ≤ (s[k].toNat : Int) ∧ (s[k].toNat : Int) ≤ 57 := of_decide_eq_true hb
        clear hb
        go_wp2
        go_roundg (gk - 1)
        case measure => omega
        case rel => exact ⟨rfl, k + 1, by omega, by go_num, by rw [Hid, HN.out, hc.out]⟩
    · obtain rfl : k = s.size := by omega
      go_wp2
      go_ret
      exact ⟨ret_bool (by rw [decide_eq_true hc.out]), rfl⟩

theorem zz_yes (s : ByteArray) (w : World) (h1 : s.size ≤ 1048576) : Calls Try.prog 9 #[.string s] w fun e w' => e = .returned (.bool true) ∧ w = w' := by
  go_enter Try.func9, Try.ntmps9
  go_wp2
  go_ret
  exact ⟨rfl, rfl⟩

set_option maxHeartbeats 400000 in
theorem law_any (s : ByteArray) (w : World) (hs : s.size ≤ maxLen) : Calls Try.prog 5 #[.string s] w fun e w' => e = .returned (.bool true) ∧ w = w' := by
  unfold maxLen at hs
  by_cases h1 : s.size ≤ 1048576
  · have hc := cnt_le s s.size
    by_cases he : cnt s s.size = s.size
    · have HD := Hid.mk (decide_eq_true he)
      have he' : ((cnt s s.size : Int) == (s.size : Int)) = true := beq_iff_eq.2 (by omega)
      clear he
      go_enter Try.func5, Try.ntmps5
      go_wp2_with fail
      refine (zz_yes s w h1).mono ?_
      rintro e w' ⟨rfl, rfl⟩
      go_wp2_with fail
      refine (all_any s w h1).mono ?_
      rintro e w' ⟨rfl, rfl⟩
      rw [HD.out]
      go_wp2_with fail
      refine (count_any s w h1).mono ?_
      rintro e w' ⟨rfl, rfl⟩
      go_wp2_with fail
      go_ret
      exact ⟨rfl, rfl⟩
    · have HD := Hid.mk (decide_eq_false he)
      have he' : ((cnt s s.size : Int) == (s.size : Int)) = false := beq_eq_false_iff_ne.2 (by omega)
      clear he
      go_enter Try.func5, Try.ntmps5
      go_wp2_with fail
      refine (zz_yes s w h1).mono ?_
      rintro e w' ⟨rfl, rfl⟩
      go_wp2_with fail
      refine (all_any s w h1).mono ?_
      rintro e w' ⟨rfl, rfl⟩
      rw [HD.out]
      go_wp2_with fail
      refine (count_any s w h1).mono ?_
      rintro e w' ⟨rfl, rfl⟩
      go_wp2_with fail
      go_ret
      exact ⟨rfl, rfl⟩
  · go_enter Try.func5, Try.ntmps5
    go_wp2
    go_ret
    exact ⟨rfl, rfl⟩
end Go.Proofs.Qxb6601942a
