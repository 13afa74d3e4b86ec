import Derived.Test.Qxb6603109aBase
namespace Go.Proofs.Qxb6603109a
open Go.ChangeShapes Go.WideShapes Go.ChangeAt Go.RowKit

set_option maxHeartbeats 400000 in
theorem triesBytes_any (a : Option Addr) (len cap : Nat) (z : Nat → T4) (w : World) (hl : len ≤ maxLen) (hr : Row4 w a len z) (hf : Fit4 len z) :
    Calls Try.prog 8 #[.slice a len cap] w fun e w' => (∃ n : Int, 0 ≤ n ∧ n ≤ 1048577 ∧ e = .returned (.int .i64 n)) ∧ w = w' := by
  unfold maxLen at hl
  go_enter Try.func8, Try.ntmps8
  go_wp2
  go_loop [3, 4] (fun t i => ∃ k : Nat, ∃ n : Int, k ≤ len ∧ 0 ≤ n ∧ n ≤ 1048576 ∧ i = .int .i64 k ∧ t = .int .i64 n) (fun _ i => len - (intOf i).toNat)
  case atStart => exact ⟨0, 0, Nat.zero_le _, by omega, by omega, rfl, rfl⟩
  case round =>
    obtain ⟨k, n, hk, hn0, hn1, rfl, rfl⟩ := hrel
    by_cases hlt : k < len
    · obtain ⟨b, off, rfl, h0, h1, h2, h3⟩ := hr.at hlt
      obtain ⟨s1, s2⟩ := hf k hlt
      clear hr hf
      unfold maxLen at s1 s2
      go_wp2
      all_goals first
        | (go_ret; exact ⟨⟨1048577, by omega, by omega, rfl⟩, rfl⟩)
        | (go_round
           case rel => exact ⟨k + 1, n + (32 + ↑(z k).sh.size + ↑(z k).th.size), by omega, by omega, by omega, by go_num, rfl⟩
           case measure => simp [intOf]; omega)
    · go_wp2
      go_ret
      exact ⟨⟨n, by omega, by omega, rfl⟩, rfl⟩
end Go.Proofs.Qxb6603109a
