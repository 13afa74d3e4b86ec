import Derived.Test.Qxb6603109aTries
import Derived.Test.Qxb6603109aW8
import Derived.Test.Qxb6603109aW14
import Derived.Test.Qxb6603109aW9
import Derived.Test.Qxb6603109aW12
import Derived.Deep.RegionHeld
namespace Go.Proofs.Qxb6603109a
open Go.ChangeShapes Go.WideShapes Go.ChangeAt Go.RowKit

set_option maxRecDepth 10000 in
set_option maxHeartbeats 1000000 in
theorem law4_any (m : Int) (a : Option Addr) (len cap : Nat) (z : Nat → T4) (w : World) (hm0 : -9223372036854775808 ≤ m) (hm1 : m ≤ 9223372036854775807) (hl : len ≤ maxLen) (hn : a = none → len = 0) (hr : Row4 w a len z) (hf : Fit4 len z) :
    Calls Try.prog 4 #[.int .i64 m, .slice a len cap] w fun e w' => e = .returned (.bool true) ∧ Below w.heap.size w w' := by
  go_enter Try.func4, Try.ntmps4
  go_wp2_with fail
  refine (zzBytes14_any m a len cap z w hl hr hf).mono ?_
  rintro e w' ⟨⟨b, rfl⟩, rfl⟩
  cases b
  · go_wp2
    go_ret
    exact ⟨rfl, Below.refl _ _⟩
  by_cases h12 : len ≤ 4096
  · go_wp2_with fail
    refine (triesBytes_any a len cap z _ hl hr hf).mono ?_
    rintro e w' ⟨⟨n, hn0, hn1, rfl⟩, rfl⟩
    by_cases hcap : n ≤ 1048576
    · go_wp2_with fail
      refine (copyTries_any a len cap z _ h12 hn hr).mono ?_
      rintro e w1 ⟨a', cap', rfl, hb1, hr1⟩
      go_wp2_with fail
      all_goals
        refine (new_any m 0 0 ⟨#[]⟩ w1).mono ?_
        rintro e w2 ⟨rfl, hst, hb2, hz2⟩
        have hR : LRel w.heap.size w w2 a' len w1.heap.size z m 0 false :=
          ⟨hb1.trans (hb2.mono hb1.size), hb1.size, hz2, (RowIn.of hr1).below hb2, hst, fun _ => .inl rfl, fun h => by cases h⟩
        clear hst hb2 hz2 hr1 hb1 hr hf
        go_wp2_with fail
        go_loopw [7, 8, 9] (fun c s i wr => ∃ k : Nat, ∃ b : Bool, k ≤ len ∧ c = .int .i64 k ∧ s = .bool b ∧ i = .int .i64 k ∧ LRel w.heap.size w wr a' len w1.heap.size z m k b) (fun _ _ i _ => len - (intOf i).toNat)
        case atStart => exact ⟨0, false, Nat.zero_le _, rfl, rfl, rfl, hR⟩
        case round =>
          obtain ⟨k, b, hk, rfl, rfl, rfl, hR⟩ := hrel
          cases b
          · by_cases hlt : k < len
            · obtain ⟨q1, q2, q3, q4, q5, q6, q7⟩ := hR
              have q6' := q6 rfl
              obtain ⟨b0, off, rfl, h0, h1, h2, h3⟩ := q4.1.at hlt
              have hbB : b0 < w1.heap.size := q4.2 b0 off rfl (by omega)
              have q5' : St wr.drew w1.heap.size m k (pc 0 z k) (ph ⟨#[]⟩ z k) := q5
              have hkl : (k : Int) < (len : Int) := by omega
              clear q6 q7
              have hadd := Hid.mk (zzadd_any w1.heap.size m k (pc 0 z k) (ph ⟨#[]⟩ z k) (z k).sc (z k).sh (z k).tc (z k).th wr.drew q3 q5' (by omega) (by omega))
              go_wp2_with fail
              go_region_held (fun w' => w'.cell? ⟨b0, off + k * 4, none⟩ = some (.int .i64 (z k).sc) ∧ w'.cell? ⟨b0, off + k * 4 + 1, none⟩ = some (.string (z k).sh) ∧ w'.cell? ⟨b0, off + k * 4 + 2, none⟩ = some (.int .i64 (z k).tc) ∧ w'.cell? ⟨b0, off + k * 4 + 3, none⟩ = some (.string (z k).th)) (first | exact ⟨h0, h1, h2, h3⟩ | exact ⟨g0, g1, g2, g3⟩) (first | (go_at_call 12; refine hadd.out.mono ?_; rintro e w3 ⟨rfl, hst3, hb3⟩; have g0 := (hb3.cell (p := ⟨b0, off + k * 4, none⟩) hbB).trans h0; have g1 := (hb3.cell (p := ⟨b0, off + k * 4 + 1, none⟩) hbB).trans h1; have g2 := (hb3.cell (p := ⟨b0, off + k * 4 + 2, none⟩) hbB).trans h2; have g3 := (hb3.cell (p := ⟨b0, off + k * 4 + 3, none⟩) hbB).trans h3))
              have R := lrel_next q1 q2 q3 q4 hst3 hb3
              have R3 := q4.below ((Below.refl _ wr).drew.trans hb3)
              clear hst3 hb3 hadd q5 q5' q4 q3 h0 h1 h2 h3 q1 q2
              rcases add_cases m k z with ⟨hA, hV, hS⟩ | ⟨hA, hV, hS, hk1, hB⟩ | ⟨hA, hV, hS⟩ | ⟨hA, hV, hS, hmk⟩
              · clear R3
                go_wp2_with fail
                go_quiet ((go_at_call 10; exact Calls.quiet_of_same (same_any _ _ _ _ _)))
                go_wp2_with fail
                go_roundw
                case rel => exact ⟨k + 1, true, by omega, by go_num, rfl, by go_num, R true (fun h => by cases h) q6' _⟩
                case measure => simp [intOf]; omega
              · first
                | (exfalso; omega)
                | (obtain ⟨b1, off1, he, e0, e1, e2, e3⟩ := R3.1.at (show k - 1 < len by omega)
                   obtain ⟨rfl, rfl, _⟩ := Addr.mk.inj (Option.some.inj he)
                   have hk1' : (1 : Int) ≤ (k : Int) := by omega
                   have hw1 : IntKind.i64.wrap ((k : Int) - 1) = (k : Int) - 1 := by rw [IntKind.wrap_i64]; omega
                   have hi0 : (0 : Int) ≤ (k : Int) - 1 := by omega
                   have hi1 : (k : Int) - 1 < (len : Int) := by omega
                   have htn : ((k : Int) - 1).toNat = k - 1 := by omega
                   clear R3 he
                   go_wp2_with fail
                   go_quiet ((go_at_call 10; exact Calls.quiet_of_same (same_any _ _ _ _ _)))
                   go_wp2_with fail
                   have R' := R true (fun h => by cases h) q6' nq
                   have c0 : (w3.drewN nq).cell? ⟨b0, off + k * 4, none⟩ = some (.int .i64 (z k).sc) := g0
                   have c1 : (w3.drewN nq).cell? ⟨b0, off + k * 4 + 1, none⟩ = some (.string (z k).sh) := g1
                   have d0 : (w3.drewN nq).cell? ⟨b0, off + (k - 1) * 4, none⟩ = some (.int .i64 (z (k - 1)).sc) := e0
                   have d1 : (w3.drewN nq).cell? ⟨b0, off + (k - 1) * 4 + 1, none⟩ = some (.string (z (k - 1)).sh) := e1
                   clear e0 e1 e2 e3 R
                   generalize w3.drewN nq = w4 at *
                   go_quiet ((go_at_call 10; exact Calls.quiet_of_same (same_any _ _ _ _ _)))
                   go_wp2_with fail
                   go_roundw
                   case rel => exact ⟨k + 1, true, by omega, by go_num, rfl, by go_num, R'.drewN _⟩
                   case measure => simp [intOf]; omega)
              · clear R3
                go_wp2_with fail
                go_quiet ((go_at_call 10; exact Calls.quiet_of_same (same_any _ _ _ _ _)))
                go_wp2_with fail
                go_roundw
                case rel => exact ⟨k + 1, true, by omega, by go_num, rfl, by go_num, R true (fun h => by cases h) q6' _⟩
                case measure => simp [intOf]; omega
              · clear R3
                go_wp2_with fail
                go_quiet ((go_at_call 10; exact Calls.quiet_of_same (same_any _ _ _ _ _)))
                go_wp2_with fail
                go_roundw
                case rel => exact ⟨k + 1, false, by omega, by go_num, rfl, by go_num, R false (fun _ => hmk) q6' _⟩
                case measure => simp [intOf]; omega
            · obtain ⟨q1, q2, q3, q4, q5, q6, q7⟩ := hR
              have q6' := q6 rfl
              clear q2 q3 q4 q5 q6 q7
              go_wp2
              go_ret
              exact ⟨rfl, q1⟩
          · obtain ⟨q1, q2, q3, q4, q5, q6, q7⟩ := hR
            have q7' := q7 rfl
            clear q2 q3 q4 q5 q6 q7
            go_wp2
            all_goals
              go_ret
              exact ⟨rfl, q1⟩
    · go_wp2
      go_ret
      exact ⟨rfl, Below.refl _ _⟩
  · go_wp2
    go_ret
    exact ⟨rfl, Below.refl _ _⟩
end Go.Proofs.Qxb6603109a
