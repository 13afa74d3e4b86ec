import Derived.Test.Qxb6603109aBase
namespace Go.Proofs.Qxb6603109a
open Go.ChangeShapes Go.WideShapes Go.ChangeAt Go.RowKit

set_option maxHeartbeats 400000 in
theorem zzBytes14_any (m : Int) (a : Option Addr) (len cap : Nat) (z : Nat → T4) (w : World) (hl : len ≤ maxLen) (hr : Row4 w a len z) (hf : Fit4 len z) :
    Calls Try.prog 14 #[.int .i64 m, .slice a len cap] w fun e w' => IsBool e ∧ w = w' := by
  unfold maxLen at hl
  go_enter Try.func14, Try.ntmps14
  go_wp2
  · go_ret
    exact ⟨.mk _, rfl⟩
  go_loop [5, 6] (fun t i => ∃ k : Nat, ∃ n : Int, k ≤ len ∧ 0 ≤ n ∧ n ≤ 1048576 ∧ i = .int .i64 k ∧ t = .int .i64 n) (fun _ i => len - (intOf i).toNat)
  case atStart => exact ⟨0, len, Nat.zero_le _, by omega, by omega, rfl, rfl⟩
  case round =>
    obtain ⟨k, n, hk, hn0, hn1, rfl, rfl⟩ := hrel
    by_cases hlt : k < len
    · obtain ⟨b, off, rfl, h0, h1, h2, h3⟩ := hr.at hlt
      obtain ⟨s1, s2⟩ := hf k hlt
      clear hr hf
      unfold maxLen at s1 s2
      go_wp2
      all_goals first
        | (go_ret; exact ⟨.mk _, rfl⟩)
        | (go_round
           case rel => exact ⟨k + 1, n + ↑(z k).sh.size + ↑(z k).th.size, by omega, by omega, by omega, by go_num, rfl⟩
           case measure => simp [intOf]; omega)
    · go_wp2
      go_ret
      exact ⟨.mk _, rfl⟩

theorem sumsEqual_any (c1 c2 : Int) (s1 s2 : ByteArray) (w : World) :
    Calls Try.prog 10 #[.int .i64 c1, .string s1, .int .i64 c2, .string s2] w fun e w' => e = .returned (.bool (decide (c1 = c2 ∧ s1 = s2))) ∧ w = w' := by
  by_cases h1 : c1 = c2
  · subst h1
    by_cases h2 : s1 = s2
    · subst h2
      go_enter Try.func10, Try.ntmps10
      go_wp2
      go_ret
      simp
    · have h2' := toList_ne h2
      go_enter Try.func10, Try.ntmps10
      go_wp2
      go_ret
      simp [h2]
  · go_enter Try.func10, Try.ntmps10
    go_wp2
    go_ret
    simp [h1]
end Go.Proofs.Qxb6603109a
