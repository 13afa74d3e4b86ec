import Derived.Test.Qxb6603109aScript
import Derived.Test.Qxb6603109aW7
import Derived.Test.Qxb6603109aW8
import Derived.Test.Qxb6603109aW9
import Derived.Deep.RegionHeld
import Derived.Deep.CutBlock
import Derived.Deep.DeepCutAuto
import Derived.Deep.LoopGhost
namespace Go.Proofs.Qxb6603109a
open Go.ChangeShapes Go.WideShapes Go.ChangeAt Go.RowKit

def Q3 (N : Nat) (w wr : World) (a : Option Addr) (len : Nat) (z : Nat → T4) : Prop := Below N w wr ∧ Row4 wr a len z

theorem same_is {c1 c2 : Int} {s1 s2 : ByteArray} {b : Bool} (h : alikeB c1 s1 c2 s2 = b) (w : World) :
    Calls Try.prog 10 #[.int .i64 c1, .string s1, .int .i64 c2, .string s2] w fun e w' => e = .returned (.bool b) ∧ w' = w := by
  subst h; exact same_any c1 c2 s1 s2 w

theorem held_pred (n c0 : Int) (h0 : ByteArray) (z : Nat → T4) {k : Nat} (hk : 1 ≤ k) : heldB n c0 h0 z k = alikeB (z k).sc (z k).sh (z (k - 1)).sc (z (k - 1)).sh := by
  obtain ⟨j, rfl⟩ : ∃ j, k = j + 1 := ⟨k - 1, by omega⟩
  rfl

theorem stop_right {s h x : Nat} (c : x < min s h) : stopOf s h x = x := by unfold stopOf; omega
theorem stop_left {s h x : Nat} (c : ¬ x < min s h) : stopOf s h x = min s h := by unfold stopOf; omega

/-- at the head of a round of the script -/
def Q5 (N : Nat) (w wr : World) (a : Option Addr) (len B : Nat) (z : Nat → T4) (m n c : Int) (p : ByteArray) (k : Nat) : Prop :=
  Below N w wr ∧ N ≤ B ∧ B < wr.heap.size ∧ RowIn wr a len z B ∧ St wr B m (n + k) (pc c z k) (ph p z k)

theorem q5_next {N : Nat} {w wr w3 : World} {a : Option Addr} {len B : Nat} {z : Nat → T4} {m n c : Int} {p : ByteArray} {k : Nat} (q1 : Below N w wr) (q2 : N ≤ B) (q3 : B < wr.heap.size) (q4 : RowIn wr a len z B)
    (hst : St w3 B m (n + k + 1) (z k).sc (z k).sh) (hb : Below B wr.drew w3) : Q5 N w w3 a len B z m n c p (k + 1) := by
  have hb' : Below B wr w3 := (Below.refl _ wr).drew.trans hb
  have hst' : St w3 B m (n + (k + 1 : Nat)) (z k).sc (z k).sh := by
    rw [show n + ((k + 1 : Nat) : Int) = n + k + 1 by omega]; exact hst
  exact ⟨q1.trans (hb'.mono q2), q2, Nat.lt_of_lt_of_le q3 hb'.size, q4.below hb', hst'⟩

theorem pc_pred (c : Int) (z : Nat → T4) {k : Nat} (h : 1 ≤ k) : pc c z k = (z (k - 1)).sc := by
  obtain ⟨j, rfl⟩ : ∃ j, k = j + 1 := ⟨k - 1, by omega⟩
  rfl
theorem ph_pred (p : ByteArray) (z : Nat → T4) {k : Nat} (h : 1 ≤ k) : ph p z k = (z (k - 1)).sh := by
  obtain ⟨j, rfl⟩ : ∃ j, k = j + 1 := ⟨k - 1, by omega⟩
  rfl

theorem Q3.drewN {N : Nat} {w wr : World} {a : Option Addr} {len : Nat} {z : Nat → T4} (h : Q3 N w wr a len z) (n : Nat) : Q3 N w (wr.drewN n) a len z :=
  ⟨below_drewN h.1 n, ((RowIn.of h.2).below (below_drewN (Below.refl _ _) n)).1⟩

set_option maxRecDepth 10000 in
set_option maxHeartbeats 2000000 in
theorem law3_any (m n c : Int) (p : ByteArray) (a : Option Addr) (len cap : Nat) (z : Nat → T4) (w : World) (hm0 : -9223372036854775808 ≤ m) (hm1 : m ≤ 9223372036854775807) (hl : len ≤ maxLen) (hp : p.size ≤ maxLen)
    (hn : a = none → len = 0) (hr : Row4 w a len z) (hf : Fit4 len z) :
    Calls Try.prog 3 #[.int .i64 m, .int .i64 n, .int .i64 c, .string p, .slice a len cap] w fun e w' => e = .returned (.bool true) ∧ Below w.heap.size w w' := by
  go_enter Try.func3, Try.ntmps3
  go_wp2_with fail
  refine (zzBytes7_any m n c p a len cap z w hl hp hr hf).mono ?_
  rintro e w' ⟨⟨b, rfl⟩, rfl⟩
  cases b
  · go_wp2
    go_ret
    exact ⟨rfl, Below.refl _ _⟩
  by_cases h12 : len ≤ 4096
  · by_cases hp1 : p.size ≤ 65536
    · go_wp2_with fail
      refine (triesBytes_any a len cap z _ hl hr hf).mono ?_
      rintro e w' ⟨⟨t, ht0, ht1, rfl⟩, rfl⟩
      by_cases hcap : p.size + t ≤ 1048576
      · by_cases hn0 : 0 ≤ n
        · by_cases hn1 : n ≤ 9223372036854767615
          · go_wp2_with fail
            refine (copyTries_any a len cap z _ h12 hn hr).mono ?_
            rintro e w1 ⟨a', cap', rfl, hb1, hr1⟩
            obtain ⟨S, F1⟩ := first_exists (sameB z) len
            obtain ⟨Hd, F2⟩ := first_exists (heldB n c p z) len
            have hq : Q3 w.heap.size w w1 a' len z := ⟨hb1, hr1⟩
            clear hb1 hr1 hr hf hp hl
            go_upto_block 0 with fail
            go_cut [12] from 59 to 85 (fun s wr => s = .int .i64 S ∧ Q3 w.heap.size w wr a' len z)
            case first =>
              go_wp2_with fail
              go_loopg [12, 13] len (fun g s i wr => ∃ k : Nat, k ≤ S ∧ g + k = len ∧ s = .int .i64 len ∧ i = .int .i64 k ∧ Q3 w.heap.size w wr a' len z)
              case atStart => exact ⟨0, Nat.zero_le _, by omega, rfl, rfl, hq⟩
              case round =>
                obtain ⟨k, hk, hg, rfl, rfl, hq⟩ := hrel
                by_cases hlt : k < len
                · obtain ⟨b0, off, rfl, h0, h1, h2, h3⟩ := hq.2.at hlt
                  have hkl : (k : Int) < (len : Int) := by omega
                  by_cases hkS : k < S
                  · have hA : Hid (alikeB (z k).sc (z k).sh (z k).tc (z k).th = false) := F1.2.1 k hkS
                    go_wp2_with fail
                    go_quiet ((go_at_call 10; exact Calls.quiet_of_same (same_is hA.out _)))
                    go_wp2_with fail
                    go_roundg (gk - 1)
                    case measure => omega
                    case rel => exact ⟨k + 1, by omega, by omega, rfl, by go_num, hq.drewN _⟩
                  · have hA : Hid (alikeB (z k).sc (z k).sh (z k).tc (z k).th = true) := by
                      have := F1.2.2 (by omega); rw [show S = k by omega] at this; exact this
                    go_wp2_with fail
                    go_quiet ((go_at_call 10; exact Calls.quiet_of_same (same_is hA.out _)))
                    go_wp2_with fail
                    go_meet
                    case rel => exact ⟨by rw [show S = k by omega], hq.drewN _⟩
                · go_wp2_with fail
                  go_meet
                  case rel => exact ⟨by rw [show S = len by have := F1.1; omega], hq⟩
            case rest =>
              obtain ⟨rfl, hq⟩ := hcut
              go_upto_block 2 with fail
              go_cut [14] from 86 to 132 (fun s wr => s = .int .i64 Hd ∧ Q3 w.heap.size w wr a' len z)
              case first =>
                go_wp2_with fail
                go_loopg [14, 15] len (fun g s i wr => ∃ k : Nat, k ≤ Hd ∧ g + k = len ∧ s = .int .i64 len ∧ i = .int .i64 k ∧ Q3 w.heap.size w wr a' len z)
                case atStart => exact ⟨0, Nat.zero_le _, by omega, rfl, rfl, hq⟩
                case round =>
                  obtain ⟨k, hk, hg, rfl, rfl, hq⟩ := hrel
                  by_cases hlt : k < len
                  · obtain ⟨b0, off, ha', h0, h1, h2, h3⟩ := hq.2.at hlt
                    have hkl : (k : Int) < (len : Int) := by omega
                    by_cases hk0 : k = 0
                    · subst hk0
                      rw [Nat.zero_mul, Nat.add_zero] at h0 h1
                      subst ha'
                      have hl0 : (0 : Int) < (len : Int) := by omega
                      by_cases hn2 : 1 ≤ n
                      · have hd : decide (1 ≤ n) = true := by simpa using hn2
                        by_cases hkH : 0 < Hd
                        · have hA : Hid (alikeB (z 0).sc (z 0).sh c p = false) := by
                            have := F2.2.1 0 hkH; simpa [Hid, heldB, hn2] using this
                          go_wp2_with fail
                          go_quiet ((go_at_call 10; exact Calls.quiet_of_same (same_is hA.out _)))
                          go_wp2_with fail
                          go_roundg (gk - 1)
                          case measure => omega
                          case rel => exact ⟨0 + 1, by omega, by omega, rfl, by go_num, hq.drewN _⟩
                        · have hA : Hid (alikeB (z 0).sc (z 0).sh c p = true) := by
                            have := F2.2.2 (by omega); rw [show Hd = 0 by omega] at this; simpa [Hid, heldB, hn2] using this
                          go_wp2_with fail
                          go_quiet ((go_at_call 10; exact Calls.quiet_of_same (same_is hA.out _)))
                          go_wp2_with fail
                          go_meet
                          case rel => exact ⟨by rw [show Hd = 0 by omega]; rfl, hq.drewN _⟩
                      · have hd : decide (1 ≤ n) = false := by simpa using hn2
                        have hkH : 0 < Hd := by
                          by_cases e : 0 < Hd
                          · exact e
                          · have := F2.2.2 (by omega); rw [show Hd = 0 by omega] at this; simp [heldB, hn2] at this
                        go_wp2_with fail
                        go_quiet (fail)
                        go_wp2_with fail
                        go_roundg (gk - 1)
                        case measure => omega
                        case rel => exact ⟨0 + 1, by omega, by omega, rfl, by go_num, hq.drewN _⟩
                    · obtain ⟨b1, off1, he, e0, e1, e2, e3⟩ := hq.2.at (show k - 1 < len by omega)
                      rw [ha'] at he
                      obtain ⟨rfl, rfl, _⟩ := Addr.mk.inj (Option.some.inj he)
                      subst ha'
                      have hk1' : (1 : Int) ≤ (k : Int) := by omega
                      have hw1 : IntKind.i64.wrap ((k : Int) - 1) = (k : Int) - 1 := by rw [IntKind.wrap_i64]; omega
                      have hi0 : (0 : Int) ≤ (k : Int) - 1 := by omega
                      have hi1 : (k : Int) - 1 < (len : Int) := by omega
                      have htn : ((k : Int) - 1).toNat = k - 1 := by omega
                      clear he e2 e3 h2 h3
                      by_cases hkH : k < Hd
                      · have hA : Hid (alikeB (z k).sc (z k).sh (z (k - 1)).sc (z (k - 1)).sh = false) := by
                          have := F2.2.1 k hkH; rw [held_pred n c p z (by omega)] at this; exact this
                        go_wp2_with fail
                        go_quiet ((go_at_call 10; exact Calls.quiet_of_same (same_is hA.out _)))
                        go_wp2_with fail
                        go_roundg (gk - 1)
                        case measure => omega
                        case rel => exact ⟨k + 1, by omega, by omega, rfl, by go_num, hq.drewN _⟩
                      · have hA : Hid (alikeB (z k).sc (z k).sh (z (k - 1)).sc (z (k - 1)).sh = true) := by
                          have := F2.2.2 (by omega); rw [show Hd = k by omega, held_pred n c p z (by omega)] at this; exact this
                        go_wp2_with fail
                        go_quiet ((go_at_call 10; exact Calls.quiet_of_same (same_is hA.out _)))
                        go_wp2_with fail
                        go_meet
                        case rel => exact ⟨by rw [show Hd = k by omega], hq.drewN _⟩
                  · go_wp2_with fail
                    go_meet
                    case rel => exact ⟨by rw [show Hd = len by have := F2.1; omega], hq⟩
              case rest =>
                obtain ⟨rfl, hq⟩ := hcut
                go_upto_if 137 with fail
                go_cut [16] from 133 to 147 (fun s wr => wr = wc ∧ ∃ X : Nat, MaxAt m n len X ∧ s = .int .i64 X)
                case first =>
                  by_cases c1 : m ≤ n + 1
                  · go_wp2_with fail
                    go_meet
                    case rel => exact ⟨rfl, 0, ⟨Nat.zero_le _, fun i hi => absurd hi (Nat.not_lt_zero _), fun _ => by omega⟩, rfl⟩
                  · by_cases c2 : m - n - 1 < len
                    · go_wp2_with fail
                      go_meet
                      case rel => exact ⟨rfl, (m - n - 1).toNat, ⟨by omega, fun i hi => by omega, fun _ => by omega⟩, by go_num⟩
                    · go_wp2_with fail
                      go_meet
                      case rel => exact ⟨rfl, len, ⟨by omega, fun i hi => by omega, fun h => by omega⟩, rfl⟩
                case rest =>
                  obtain ⟨rfl, X, F3, rfl⟩ := hcut
                  go_upto_if 151 with fail
                  go_cut [17] from 148 to 152 (fun s wr => wr = wc ∧ s = .int .i64 (min S Hd : Nat))
                  case first =>
                    by_cases c1 : Hd < S
                    · go_wp2_with fail
                      go_meet
                      case rel => exact ⟨rfl, by rw [Nat.min_eq_right (by omega)]⟩
                    · go_wp2_with fail
                      go_meet
                      case rel => exact ⟨rfl, by rw [Nat.min_eq_left (by omega)]⟩
                  case rest =>
                    obtain ⟨rfl, rfl⟩ := hcut
                    go_upto_if 155 with fail
                    go_cut [17] from 153 to 156 (fun s wr => wr = wc ∧ s = .int .i64 (stopOf S Hd X))
                    case first =>
                      by_cases c1 : X < min S Hd
                      · go_wp2_with fail
                        go_meet
                        case rel => exact ⟨rfl, by rw [stop_right c1]⟩
                      · go_wp2_with fail
                        go_meet
                        case rel => exact ⟨rfl, by rw [stop_left c1]⟩
                    case rest =>
                      obtain ⟨rfl, rfl⟩ := hcut
                      go_upto_if 160 with fail
                      go_cut [19] from 157 to 166 (fun s wr => wr = wc ∧ s = .int .i64 (wantOf S Hd X len))
                      case first =>
                        by_cases c1 : stopOf S Hd X < len
                        · by_cases c2 : stopOf S Hd X = S
                          · have c2' : ((stopOf S Hd X : Int) == (S : Int)) = true := beq_iff_eq.2 (by omega)
                            have HW : Hid (wantOf S Hd X len = 0) := by unfold wantOf Hid; rw [if_pos c1, if_pos c2]
                            clear c2
                            go_wp2_with fail
                            go_meet
                            case rel => exact ⟨rfl, by rw [HW.out]⟩
                          · have c2' : ((stopOf S Hd X : Int) == (S : Int)) = false := beq_eq_false_iff_ne.2 (by omega)
                            by_cases c3 : stopOf S Hd X = Hd
                            · have c3' : ((stopOf S Hd X : Int) == (Hd : Int)) = true := beq_iff_eq.2 (by omega)
                              have HW : Hid (wantOf S Hd X len = 1) := by unfold wantOf Hid; rw [if_pos c1, if_neg c2, if_pos c3]
                              clear c2 c3
                              go_wp2_with fail
                              go_meet
                              case rel => exact ⟨rfl, by rw [HW.out]⟩
                            · have c3' : ((stopOf S Hd X : Int) == (Hd : Int)) = false := beq_eq_false_iff_ne.2 (by omega)
                              have HW : Hid (wantOf S Hd X len = 2) := by unfold wantOf Hid; rw [if_pos c1, if_neg c2, if_neg c3]
                              clear c2 c3
                              go_wp2_with fail
                              go_meet
                              case rel => exact ⟨rfl, by rw [HW.out]⟩
                        · have HW : Hid (wantOf S Hd X len = 2) := by unfold wantOf Hid; rw [if_neg c1]
                          go_wp2_with fail
                          go_meet
                          case rel => exact ⟨rfl, by rw [HW.out]⟩
                      case rest =>
                        obtain ⟨rfl, rfl⟩ := hcut
                        go_upto_if 168 with fail
                        go_cut [20] from 167 to 170 (fun s wr => wr = wc ∧ s = .int .i64 (callsOf S Hd X len))
                        case first =>
                          by_cases c1 : stopOf S Hd X < len
                          · have HW : Hid (callsOf S Hd X len = stopOf S Hd X + 1) := by unfold callsOf Hid; rw [if_pos c1]
                            go_wp2_with fail
                            go_meet
                            case rel => exact ⟨rfl, by rw [HW.out]; go_num⟩
                          · have HW : Hid (callsOf S Hd X len = len) := by unfold callsOf Hid; rw [if_neg c1]
                            go_wp2_with fail
                            go_meet
                            case rel => exact ⟨rfl, by rw [HW.out]⟩
                        case rest =>
                          obtain ⟨rfl, rfl⟩ := hcut
                          have hCl := calls_le S Hd X len
                          generalize hC : callsOf S Hd X len = C at *
                          have HC : Hid (callsOf S Hd X len = C) := hC
                          clear hC
                          go_wp2_with fail
                          refine (new_any m n c p wc).mono ?_
                          rintro e w2 ⟨rfl, hst, hb2, hz2⟩
                          have hR : Q5 w.heap.size w w2 a' len wc.heap.size z m n c p 0 :=
                            ⟨hq.1.trans (hb2.mono hq.1.size), hq.1.size, hz2, (RowIn.of hq.2).below hb2, by simpa [pc, ph] using hst⟩
                          clear hst hb2 hz2
                          go_wp2_with fail
                          go_loopg [22] C (fun g i wr => ∃ k : Nat, g + k = C ∧ i = .int .i64 k ∧ Q5 w.heap.size w wr a' len wc.heap.size z m n c p k)
                          case atStart => exact ⟨0, by omega, rfl, hR⟩
                          case round =>
                            obtain ⟨k, hg, rfl, q1, q2, q3, q4, q5⟩ := hrel
                            by_cases hkC : k < C
                            · have hlt : k < len := by omega
                              obtain ⟨b0, off, rfl, h0, h1, h2, h3⟩ := q4.1.at hlt
                              have hbB : b0 < wc.heap.size := q4.2 b0 off rfl (by omega)
                              have q5' : St wr.drew wc.heap.size m (n + k) (pc c z k) (ph p z k) := q5
                              have hkl : (k : Int) < (len : Int) := by omega
                              have hadd := Hid.mk (zzadd_any wc.heap.size m (n + k) (pc c z k) (ph p z k) (z k).sc (z k).sh (z k).tc (z k).th wr.drew q3 q5' (by omega) (by omega))
                              by_cases hE : k + 1 < C
                              · obtain ⟨hV, hS⟩ := step_early hn0 F1 F2 F3 (early_of (by rw [HC.out]; exact hE))
                                have hE' : (k : Int) < (C : Int) - 1 := by omega
                                go_wp2_with fail
                                go_region_held (fun w' => w'.cell? ⟨b0, off + k * 4, none⟩ = some (.int .i64 (z k).sc) ∧ w'.cell? ⟨b0, off + k * 4 + 1, none⟩ = some (.string (z k).sh) ∧ w'.cell? ⟨b0, off + k * 4 + 2, none⟩ = some (.int .i64 (z k).tc) ∧ w'.cell? ⟨b0, off + k * 4 + 3, none⟩ = some (.string (z k).th)) (first | exact ⟨h0, h1, h2, h3⟩ | exact ⟨g0, g1, g2, g3⟩) (first | (go_at_call 12; refine hadd.out.mono ?_; rintro e w3 ⟨rfl, hst3, hb3⟩; have g0 := (hb3.cell (p := ⟨b0, off + k * 4, none⟩) hbB).trans h0; have g1 := (hb3.cell (p := ⟨b0, off + k * 4 + 1, none⟩) hbB).trans h1; have g2 := (hb3.cell (p := ⟨b0, off + k * 4 + 2, none⟩) hbB).trans h2; have g3 := (hb3.cell (p := ⟨b0, off + k * 4 + 3, none⟩) hbB).trans h3))
                                have R := q5_next (c := c) (p := p) q1 q2 q3 q4 hst3 hb3
                                go_wp2_with fail
                                go_roundg (gk - 1)
                                case measure => omega
                                case rel => exact ⟨k + 1, by omega, by go_num, R⟩
                              · obtain ⟨hV, hS⟩ := step_last hn0 F1 F2 F3 (show k + 1 = callsOf S Hd X len by rw [HC.out]; omega)
                                have hE' : ¬ (k : Int) < (C : Int) - 1 := by omega
                                go_wp2_with fail
                                go_region_held (fun w' => w'.cell? ⟨b0, off + k * 4, none⟩ = some (.int .i64 (z k).sc) ∧ w'.cell? ⟨b0, off + k * 4 + 1, none⟩ = some (.string (z k).sh) ∧ w'.cell? ⟨b0, off + k * 4 + 2, none⟩ = some (.int .i64 (z k).tc) ∧ w'.cell? ⟨b0, off + k * 4 + 3, none⟩ = some (.string (z k).th)) (first | exact ⟨h0, h1, h2, h3⟩ | exact ⟨g0, g1, g2, g3⟩) (first | (go_at_call 12; refine hadd.out.mono ?_; rintro e w3 ⟨rfl, hst3, hb3⟩; have g0 := (hb3.cell (p := ⟨b0, off + k * 4, none⟩) hbB).trans h0; have g1 := (hb3.cell (p := ⟨b0, off + k * 4 + 1, none⟩) hbB).trans h1; have g2 := (hb3.cell (p := ⟨b0, off + k * 4 + 2, none⟩) hbB).trans h2; have g3 := (hb3.cell (p := ⟨b0, off + k * 4 + 3, none⟩) hbB).trans h3))
                                have R := q5_next (c := c) (p := p) q1 q2 q3 q4 hst3 hb3
                                go_wp2_with fail
                                go_roundg (gk - 1)
                                case measure => omega
                                case rel => exact ⟨k + 1, by omega, by go_num, R⟩
                            · obtain rfl : k = C := by omega
                              by_cases hk0 : k = 0
                              · subst hk0
                                have q6 : St wr wc.heap.size m n c p := by simpa [pc, ph] using q5
                                go_wp2_with fail
                                refine (state_any wc.heap.size m n c p wr q6).mono ?_
                                rintro e w' ⟨rfl, j, rfl⟩
                                go_wp2_with fail
                                go_ret
                                exact ⟨rfl, below_drewN q1 j⟩
                              · have q6 : St wr wc.heap.size m (n + k) (z (k - 1)).sc (z (k - 1)).sh := by
                                  rw [← pc_pred c z (by omega), ← ph_pred p z (by omega)]; exact q5
                                obtain ⟨b0, off, rfl, h0, h1, h2, h3⟩ := q4.1.at (show k - 1 < len by omega)
                                have hk1' : (1 : Int) ≤ (k : Int) := by omega
                                have hi0 : (0 : Int) ≤ (k : Int) - 1 := by omega
                                have hi1 : (k : Int) - 1 < (len : Int) := by omega
                                have htn : ((k : Int) - 1).toNat = k - 1 := by omega
                                have hk0' : ((k : Int) == 0) = false := beq_eq_false_iff_ne.2 (by omega)
                                go_wp2_with fail
                                refine (state_any wc.heap.size m (n + k) _ _ wr q6).mono ?_
                                rintro e w' ⟨rfl, j, rfl⟩
                                go_wp2_with fail
                                go_ret
                                exact ⟨rfl, below_drewN q1 j⟩
          · go_wp2
            go_ret
            exact ⟨rfl, Below.refl _ _⟩
        · go_wp2
          go_ret
          exact ⟨rfl, Below.refl _ _⟩
      · go_wp2
        go_ret
        exact ⟨rfl, Below.refl _ _⟩
    · go_wp2
      go_ret
      exact ⟨rfl, Below.refl _ _⟩
  · go_wp2
    go_ret
    exact ⟨rfl, Below.refl _ _⟩
end Go.Proofs.Qxb6603109a
