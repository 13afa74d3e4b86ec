import Derived.Test.Qxb6603109aBase2
namespace Go.Proofs.Qxb6603109a
open Go.ChangeShapes Go.WideShapes Go.ChangeAt Go.RowKit

set_option maxHeartbeats 400000 in
theorem pairsBytes_any (a : Option Addr) (len cap : Nat) (J : Nat → Nat → ByteArray) (w : World) (hl : len ≤ maxLen) (hr : RowM 2 w a len J) (hf : FitM 2 len J) :
    Calls Try.prog 16 #[.slice a len cap] w fun e w' => (∃ n : Int, 0 ≤ n ∧ n ≤ 1048577 ∧ e = .returned (.int .i64 n)) ∧ w = w' := by
  unfold maxLen at hl
  go_enter Try.func16, Try.ntmps16
  go_wp2
  go_loop [3, 4] (fun t i => ∃ k : Nat, ∃ n : Int, k ≤ len ∧ 0 ≤ n ∧ n ≤ 1048576 ∧ i = .int .i64 k ∧ t = .int .i64 n) (fun _ i => len - (intOf i).toNat)
  case atStart => exact ⟨0, 0, Nat.zero_le _, by omega, by omega, rfl, rfl⟩
  case round =>
    obtain ⟨k, n, hk, hn0, hn1, rfl, rfl⟩ := hrel
    by_cases hlt : k < len
    · obtain ⟨b, off, rfl, h0, h1⟩ := hr.at2 hlt
      have s1 := hf k 0 hlt (by omega)
      have s2 := hf k 1 hlt (by omega)
      clear hr hf
      unfold maxLen at s1 s2
      go_wp2
      all_goals first
        | (go_ret; exact ⟨⟨1048577, by omega, by omega, rfl⟩, rfl⟩)
        | (go_round
           case rel => exact ⟨k + 1, n + (32 + ↑(J k 0).size + ↑(J k 1).size), by omega, by omega, by omega, by go_num, rfl⟩
           case measure => simp [intOf]; omega)
    · go_wp2
      go_ret
      exact ⟨⟨n, by omega, by omega, rfl⟩, rfl⟩

set_option maxHeartbeats 400000 in
theorem triplesBytes_any (a : Option Addr) (len cap : Nat) (J : Nat → Nat → ByteArray) (w : World) (hl : len ≤ maxLen) (hr : RowM 3 w a len J) (hf : FitM 3 len J) :
    Calls Try.prog 17 #[.slice a len cap] w fun e w' => (∃ n : Int, 0 ≤ n ∧ n ≤ 1048577 ∧ e = .returned (.int .i64 n)) ∧ w = w' := by
  unfold maxLen at hl
  go_enter Try.func17, Try.ntmps17
  go_wp2
  go_loop [3, 4] (fun t i => ∃ k : Nat, ∃ n : Int, k ≤ len ∧ 0 ≤ n ∧ n ≤ 1048576 ∧ i = .int .i64 k ∧ t = .int .i64 n) (fun _ i => len - (intOf i).toNat)
  case atStart => exact ⟨0, 0, Nat.zero_le _, by omega, by omega, rfl, rfl⟩
  case round =>
    obtain ⟨k, n, hk, hn0, hn1, rfl, rfl⟩ := hrel
    by_cases hlt : k < len
    · obtain ⟨b, off, rfl, h0, h1, h2⟩ := hr.at3 hlt
      have s1 := hf k 0 hlt (by omega)
      have s2 := hf k 1 hlt (by omega)
      have s3 := hf k 2 hlt (by omega)
      clear hr hf
      unfold maxLen at s1 s2 s3
      go_wp2
      all_goals first
        | (go_ret; exact ⟨⟨1048577, by omega, by omega, rfl⟩, rfl⟩)
        | (go_round
           case rel => exact ⟨k + 1, n + (48 + ↑(J k 0).size + ↑(J k 1).size + ↑(J k 2).size), by omega, by omega, by omega, by go_num, rfl⟩
           case measure => simp [intOf]; omega)
    · go_wp2
      go_ret
      exact ⟨⟨n, by omega, by omega, rfl⟩, rfl⟩
end Go.Proofs.Qxb6603109a
