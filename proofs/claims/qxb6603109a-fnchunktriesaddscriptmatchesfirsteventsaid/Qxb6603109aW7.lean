import Derived.Test.Qxb6603109aTries
namespace Go.Proofs.Qxb6603109a
open Go.ChangeShapes Go.WideShapes Go.ChangeAt Go.RowKit

set_option maxHeartbeats 1000000 in
theorem zzBytes7_any (m n c : Int) (p : ByteArray) (a : Option Addr) (len cap : Nat) (z : Nat → T4) (w : World) (hl : len ≤ maxLen) (hp : p.size ≤ maxLen) (hr : Row4 w a len z) (hf : Fit4 len z) :
    Calls Try.prog 7 #[.int .i64 m, .int .i64 n, .int .i64 c, .string p, .slice a len cap] w fun e w' => IsBool e ∧ w = w' := by
  unfold maxLen at hl hp
  by_cases hp1 : p.size ≤ 1048576
  · by_cases hl1 : len ≤ 1048576
    · by_cases hpl : p.size + len ≤ 1048576
      · go_enter Try.func7, Try.ntmps7
        go_wp2
        go_loop [11, 12] (fun t i => ∃ k : Nat, ∃ n : Int, k ≤ len ∧ 0 ≤ n ∧ n ≤ 1048576 ∧ i = .int .i64 k ∧ t = .int .i64 n) (fun _ i => len - (intOf i).toNat)
        case atStart => exact ⟨0, _, Nat.zero_le _, by omega, by omega, rfl, rfl⟩
        case round =>
          obtain ⟨k, n, hk, hn0, hn1, rfl, rfl⟩ := hrel
          by_cases hlt : k < len
          · obtain ⟨b, off, rfl, h0, h1, h2, h3⟩ := hr.at hlt
            obtain ⟨s1, s2⟩ := hf k hlt
            clear hr hf
            unfold maxLen at s1 s2
            go_wp2
            all_goals first
              | (go_ret; exact ⟨.mk _, rfl⟩)
              | (go_round
                 case rel => exact ⟨k + 1, n + ↑(z k).sh.size + ↑(z k).th.size, by omega, by omega, by omega, by go_num, rfl⟩
                 case measure => simp [intOf]; omega)
          · go_wp2
            go_ret
            exact ⟨.mk _, rfl⟩
      · go_enter Try.func7, Try.ntmps7
        go_wp2
        go_ret
        exact ⟨.mk _, rfl⟩
    · go_enter Try.func7, Try.ntmps7
      go_wp2
      go_ret
      exact ⟨.mk _, rfl⟩
  · go_enter Try.func7, Try.ntmps7
    go_wp2
    go_ret
    exact ⟨.mk _, rfl⟩

theorem state_any (B : Nat) (m n c : Int) (h : ByteArray) (w : World) (hst : St w B m n c h) :
    Calls Try.prog 13 #[.pointer (some ⟨B, 0, none⟩)] w fun e w' => e = .returned (.tuple #[.int .i64 m, .int .i64 n, .int .i64 c, .string h]) ∧ ∃ k, w' = w.drewN k := by
  obtain ⟨h0, h1, h2, h3, f1, f2, f3⟩ := hst
  go_enter Try.func13, Try.ntmps13
  go_wp2
  go_quiet (fail)
  go_wp2
  exact bodyPost_ret (v := .tuple #[.int .i64 m, .int .i64 n, .int .i64 c, .string h]) (by simp [results, Try.results13, go_sem]) rfl ⟨rfl, _, rfl⟩
end Go.Proofs.Qxb6603109a
