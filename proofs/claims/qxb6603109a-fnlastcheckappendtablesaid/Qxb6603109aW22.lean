import Derived.Test.Qxb6603109aBase2
namespace Go.Proofs.Qxb6603109a
open Go.ChangeShapes Go.WideShapes Go.ChangeAt Go.RowKit

set_option maxHeartbeats 1000000 in
theorem zzBytes22_any (a : Option Addr) (len cap : Nat) (J : Nat → Nat → ByteArray) (a2 : Option Addr) (len2 cap2 : Nat) (U : Nat → Nat → ByteArray) (db nm : ByteArray) (w : World)
    (hl : len ≤ maxLen) (hr : RowM 2 w a len J) (hf : FitM 2 len J) (hl2 : len2 ≤ maxLen) (hr2 : RowM 3 w a2 len2 U) (hf2 : FitM 3 len2 U) (hd : db.size ≤ maxLen) (hm : nm.size ≤ maxLen) :
    Calls Try.prog 22 #[.slice a len cap, .slice a2 len2 cap2, .string db, .string nm] w fun e w' => IsBool e ∧ w = w' := by
  unfold maxLen at hl hl2 hd hm
  by_cases hl1 : len ≤ 1048576
  · go_enter Try.func22, Try.ntmps22
    go_wp2
    go_loopg [9, 10] len (fun g t i wr => w = wr ∧ ∃ k : Nat, ∃ n : Int, g + k = len ∧ 0 ≤ n ∧ n ≤ 1048576 ∧ i = .int .i64 k ∧ t = .int .i64 n)
    case atStart => exact ⟨rfl, 0, len, by omega, by omega, by omega, rfl, by first | rfl | go_num⟩
    case round =>
      obtain ⟨hw, k, n, hk, hn0, hn1, rfl, rfl⟩ := hrel
      subst hw
      by_cases hlt : k < len
      · obtain ⟨b, off, rfl, h0⟩ := hr.at hlt
        have hf' := fun j hj => hf k j hlt hj
        go_wp2
        go_loopg [9, 11] 2 (fun g t i wr' => w = wr' ∧ ∃ j : Nat, ∃ n : Int, g + j = 2 ∧ 0 ≤ n ∧ n ≤ 1048576 ∧ i = .int .i64 j ∧ t = .int .i64 n)
        case atStart => exact ⟨rfl, 0, n, by omega, by omega, by omega, rfl, rfl⟩
        case round =>
          obtain ⟨hw, j, n', hj, hn0', hn1', rfl, rfl⟩ := hrel
          subst hw
          by_cases hj2 : j < 2
          · have c0 := h0 j hj2
            have s0 := hf' j hj2
            have hj2' : (j : Int) < 2 := by omega
            clear h0 hf'
            unfold maxLen at s0
            go_wp2
            · go_ret
              exact ⟨.mk _, rfl⟩
            · go_ret
              exact ⟨.mk _, rfl⟩
            · go_roundg (2 - j - 1)
              case measure => omega
              case rel => exact ⟨rfl, j + 1, n' + ↑(J k j).size, by omega, by omega, by omega, by go_num, rfl⟩
          · go_wp2
            go_roundg (len - k - 1)
            case measure => omega
            case rel => exact ⟨rfl, k + 1, n', by omega, by omega, by omega, by go_num, rfl⟩
      · by_cases hl2' : len2 ≤ 1048576
        · by_cases hs : n + len2 ≤ 1048576
          · go_wp2
            go_loopg [9, 12] len2 (fun g t i wr => w = wr ∧ ∃ k : Nat, ∃ n : Int, g + k = len2 ∧ 0 ≤ n ∧ n ≤ 1048576 ∧ i = .int .i64 k ∧ t = .int .i64 n)
            case atStart => exact ⟨rfl, 0, n + len2, by omega, by omega, by omega, rfl, by first | rfl | go_num⟩
            case round =>
              obtain ⟨hw, k, n, hk, hn0, hn1, rfl, rfl⟩ := hrel
              subst hw
              by_cases hlt : k < len2
              · obtain ⟨b, off, rfl, h0⟩ := hr2.at hlt
                have hf' := fun j hj => hf2 k j hlt hj
                go_wp2
                go_loopg [9, 13] 3 (fun g t i wr' => w = wr' ∧ ∃ j : Nat, ∃ n : Int, g + j = 3 ∧ 0 ≤ n ∧ n ≤ 1048576 ∧ i = .int .i64 j ∧ t = .int .i64 n)
                case atStart => exact ⟨rfl, 0, n, by omega, by omega, by omega, rfl, rfl⟩
                case round =>
                  obtain ⟨hw, j, n', hj, hn0', hn1', rfl, rfl⟩ := hrel
                  subst hw
                  by_cases hj2 : j < 3
                  · have c0 := h0 j hj2
                    have s0 := hf' j hj2
                    have hj2' : (j : Int) < 3 := by omega
                    clear h0 hf'
                    unfold maxLen at s0
                    go_wp2
                    · go_ret
                      exact ⟨.mk _, rfl⟩
                    · go_ret
                      exact ⟨.mk _, rfl⟩
                    · go_roundg (3 - j - 1)
                      case measure => omega
                      case rel => exact ⟨rfl, j + 1, n' + ↑(U k j).size, by omega, by omega, by omega, by go_num, rfl⟩
                  · go_wp2
                    go_roundg (len2 - k - 1)
                    case measure => omega
                    case rel => exact ⟨rfl, k + 1, n', by omega, by omega, by omega, by go_num, rfl⟩
              · go_wp2
                all_goals
                  go_ret
                  exact ⟨.mk _, rfl⟩
          · go_wp2
            go_ret
            exact ⟨.mk _, rfl⟩
        · go_wp2
          go_ret
          exact ⟨.mk _, rfl⟩
  · go_enter Try.func22, Try.ntmps22
    go_wp2
    go_ret
    exact ⟨.mk _, rfl⟩
end Go.Proofs.Qxb6603109a
