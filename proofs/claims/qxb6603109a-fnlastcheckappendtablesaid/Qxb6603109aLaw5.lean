import Derived.Test.Qxb6603109aScan
import Derived.Test.Qxb6603109aW15
import Derived.Test.Qxb6603109aW16
import Derived.Test.Qxb6603109aW18
namespace Go.Proofs.Qxb6603109a
open Go.ChangeShapes Go.WideShapes Go.ChangeAt Go.RowKit

/-- both rows lie in wr; below N nothing has turned -/
def Q6 (N : Nat) (w wr : World) (a : Option Addr) (len : Nat) (J : Nat → Nat → ByteArray) (a2 : Option Addr) (len2 : Nat) (U : Nat → Nat → ByteArray) : Prop := Below N w wr ∧ RowM 2 wr a len J ∧ RowM 3 wr a2 len2 U
theorem Q6.drewN {N : Nat} {w wr : World} {a : Option Addr} {len : Nat} {J : Nat → Nat → ByteArray} {a2 : Option Addr} {len2 : Nat} {U : Nat → Nat → ByteArray} (h : Q6 N w wr a len J a2 len2 U) (n : Nat) : Q6 N w (wr.drewN n) a len J a2 len2 U :=
  ⟨below_drewN h.1 n, h.2.1.below (by omega) (below_drewN (Below.refl _ _) n), h.2.2.below (by omega) (below_drewN (Below.refl _ _) n)⟩

set_option maxRecDepth 10000 in
set_option maxHeartbeats 2000000 in
theorem law5_any (a : Option Addr) (len cap : Nat) (J : Nat → Nat → ByteArray) (a2 : Option Addr) (len2 cap2 : Nat) (U : Nat → Nat → ByteArray) (w : World)
    (hl : len ≤ maxLen) (hn : a = none → len = 0) (hr : RowM 2 w a len J) (hf : FitM 2 len J) (hl2 : len2 ≤ maxLen) (hn2 : a2 = none → len2 = 0) (hr2 : RowM 3 w a2 len2 U) (hf2 : FitM 3 len2 U) :
    Calls Try.prog 5 #[.slice a len cap, .slice a2 len2 cap2] w fun e w' => e = .returned (.bool true) ∧ Below w.heap.size w w' := by
  go_enter Try.func5, Try.ntmps5
  go_wp2_with fail
  refine (zzBytes15_any a len cap J a2 len2 cap2 U w hl hr hf hl2 hr2 hf2).mono ?_
  rintro e w' ⟨⟨b, rfl⟩, rfl⟩
  cases b
  · go_wp2
    go_ret
    exact ⟨rfl, Below.refl _ _⟩
  by_cases h12 : len ≤ 4096
  · by_cases h13 : len2 ≤ 4096
    · go_wp2_with fail
      refine (pairsBytes_any a len cap J _ hl hr hf).mono ?_
      rintro e w' ⟨⟨t, ht0, ht1, rfl⟩, rfl⟩
      go_wp2_with fail
      refine (triplesBytes_any a2 len2 cap2 U _ hl2 hr2 hf2).mono ?_
      rintro e w' ⟨⟨t2, ht20, ht21, rfl⟩, rfl⟩
      by_cases hcap : t + t2 ≤ 1048576
      · go_wp2_with fail
        refine (copyPairs_any a len cap J _ h12 hn hr).mono ?_
        rintro e w1 ⟨a', cap', rfl, hb1, hr1⟩
        go_wp2_with fail
        refine (copyTriples_any a2 len2 cap2 U _ h13 hn2 (hr2.below (by omega) hb1)).mono ?_
        rintro e w2 ⟨a2', cap2', rfl, hb2, hr22⟩
        have hq : Q6 w.heap.size w w2 a' len J a2' len2 U := ⟨hb1.trans (hb2.mono hb1.size), hr1.below (by omega) hb2, hr22⟩
        clear hb1 hr1 hb2 hr22 hr hf hr2 hf2 hl hl2
        rcases first_hit (hits J U len2) len with hN | ⟨F, r, hF, hN, hH⟩
        · have hN' : Hid (∀ j, j < len → look U len2 (J j 0) (J j 1) = none) := hN
          clear hN
          go_wp2_with fail
          go_loopg [5, 6, 7] len (fun g f r i wr => f = .int .i64 (-1) ∧ r = .string ⟨#[]⟩ ∧ ∃ k : Nat, g + k = len ∧ i = .int .i64 k ∧ Q6 w.heap.size w wr a' len J a2' len2 U)
          case atStart => exact ⟨rfl, rfl, 0, by omega, rfl, hq⟩
          case round =>
            obtain ⟨rfl, rfl, k, hk, rfl, hq⟩ := hrel
            by_cases hlt : k < len
            · obtain ⟨b0, off, rfl, h0, h1⟩ := hq.2.1.at2 hlt
              have hkl : (k : Int) < (len : Int) := by omega
              have hE := hN'.out k hlt
              have HE : Hid (look U len2 (J k 0) (J k 1) = none) := hE
              clear hE
              go_wp2_with fail
              go_quiet ((go_at_call 20; exact Calls.quiet_of_same (entry_none (by omega) HE.out (hq.drewN _).2.2)))
              go_wp2_with fail
              go_roundg (len - k - 1)
              case measure => omega
              case rel => exact ⟨rfl, rfl, k + 1, by omega, by go_num, hq.drewN _⟩
            · go_wp2_with fail
              refine (lastCheck_is (by omega) hq.2.1 (by omega) hq.2.2 (lc_none hN'.out)).mono ?_
              rintro e w' ⟨rfl, hb'⟩
              go_wp2
              go_ret
              exact ⟨rfl, hq.1.trans (hb'.mono hq.1.size)⟩
        · obtain ⟨G, g1, g2, g3, g4, g5⟩ := lc_some hN hH hF
          have hN' : Hid (∀ j, j < F → look U len2 (J j 0) (J j 1) = none) := hN
          have hH' : Hid (look U len2 (J F 0) (J F 1) = some r) := hH
          have g1' : Hid (lc (hits J U len2) len = ((F : Int), (G : Int), r)) := g1
          have g4' : Hid (look U len2 (J G 0) (J G 1) = some r) := g4
          have g5' : Hid (∀ j, G < j → j < len → look U len2 (J j 0) (J j 1) ≠ some r) := g5
          clear hN hH g1 g4 g5
          go_wp2_with fail
          go_loopg [5, 6, 7] (F + 1) (fun g f r i wr => f = .int .i64 (-1) ∧ r = .string ⟨#[]⟩ ∧ ∃ k : Nat, g + k = F + 1 ∧ k ≤ F ∧ i = .int .i64 k ∧ Q6 w.heap.size w wr a' len J a2' len2 U)
          case atStart => exact ⟨rfl, rfl, 0, by omega, by omega, rfl, hq⟩
          case round =>
            obtain ⟨rfl, rfl, k, hk, hkF, rfl, hq⟩ := hrel
            have hlt : k < len := by omega
            obtain ⟨b0, off, ha', h0, h1⟩ := hq.2.1.at2 hlt
            have hkl : (k : Int) < (len : Int) := by omega
            by_cases hkf : k < F
            · have HE : Hid (look U len2 (J k 0) (J k 1) = none) := hN'.out k hkf
              subst ha'
              go_wp2_with fail
              go_quiet ((go_at_call 20; exact Calls.quiet_of_same (entry_none (by omega) HE.out (hq.drewN _).2.2)))
              go_wp2_with fail
              go_roundg (gk - 1)
              case measure => omega
              case rel => exact ⟨rfl, rfl, k + 1, by omega, by omega, by go_num, hq.drewN _⟩
            · obtain rfl : k = F := by omega
              subst ha'
              go_wp2_with fail
              go_quiet ((go_at_call 20; exact Calls.quiet_of_same (entry_some (by omega) hH'.out (hq.drewN _).2.2)))
              have hq' := hq.drewN nq
              clear hq h0 h1
              generalize wr.drewN nq = w4 at *
              go_wp2_with fail
              go_loopg [10, 11] (len - 1) (fun g l i wr => l = .int .i64 (-1) ∧ G ≤ g ∧ g < len ∧ i = .int .i64 g ∧ Q6 w.heap.size w wr (some ⟨b0, off, none⟩) len J a2' len2 U)
              case atStart => exact ⟨rfl, by omega, by omega, by go_num, hq'⟩
              case round =>
                obtain ⟨rfl, hG, hgl, rfl, hq⟩ := hrel
                obtain ⟨b1, off1, ha1, h0, h1⟩ := hq.2.1.at2 hgl
                obtain ⟨rfl, rfl, _⟩ := Addr.mk.inj (Option.some.inj ha1)
                have hkl1 : (gk : Int) < (len : Int) := by omega
                have hkk : (k : Int) ≤ (gk : Int) := by omega
                by_cases hgG : gk = G
                · subst hgG
                  have hrr : (r.toList == r.toList) = true := by simp
                  go_wp2_with fail
                  go_quiet ((go_at_call 20; exact Calls.quiet_of_same (entry_some (by omega) g4'.out (hq.drewN _).2.2)))
                  have hq5 := hq.drewN nq
                  clear hq h0 h1
                  generalize wr.drewN nq = w5 at *
                  go_wp2_with fail
                  refine (lastCheck_is (by omega) hq5.2.1 (by omega) hq5.2.2 g1'.out).mono ?_
                  rintro e w' ⟨rfl, hb'⟩
                  go_wp2
                  go_ret
                  exact ⟨rfl, hq5.1.trans (hb'.mono hq5.1.size)⟩
                · have hne := g5'.out gk (by omega) hgl
                  cases hlk : look U len2 (J gk 0) (J gk 1) with
                  | none =>
                    have HE : Hid (look U len2 (J gk 0) (J gk 1) = none) := hlk
                    clear hlk hne
                    go_wp2_with fail
                    go_quiet ((go_at_call 20; exact Calls.quiet_of_same (entry_none (by omega) HE.out (hq.drewN _).2.2)))
                    go_wp2_with fail
                    go_roundg (gk - 1)
                    case measure => omega
                    case rel => exact ⟨rfl, by omega, by omega, by go_num, hq.drewN _⟩
                  | some r' =>
                    have HE : Hid (look U len2 (J gk 0) (J gk 1) = some r') := hlk
                    have hrr : (r'.toList == r.toList) = false := toList_ne (fun e => hne (by rw [hlk, e]))
                    clear hlk hne
                    go_wp2_with fail
                    go_quiet ((go_at_call 20; exact Calls.quiet_of_same (entry_some (by omega) HE.out (hq.drewN _).2.2)))
                    go_wp2_with fail
                    go_roundg (gk - 1)
                    case measure => omega
                    case rel => exact ⟨rfl, by omega, by omega, by go_num, hq.drewN _⟩
      · go_wp2
        go_ret
        exact ⟨rfl, Below.refl _ _⟩
    · go_wp2
      go_ret
      exact ⟨rfl, Below.refl _ _⟩
  · go_wp2
    go_ret
    exact ⟨rfl, Below.refl _ _⟩
end Go.Proofs.Qxb6603109a
