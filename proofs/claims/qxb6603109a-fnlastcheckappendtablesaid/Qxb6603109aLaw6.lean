import Derived.Test.Qxb6603109aLaw5
import Derived.Test.Qxb6603109aW22
namespace Go.Proofs.Qxb6603109a
open Go.ChangeShapes Go.WideShapes Go.ChangeAt Go.RowKit

/-- job with one table more -/
def ext (J : Nat → Nat → ByteArray) (len : Nat) (db nm : ByteArray) : Nat → Nat → ByteArray := fun i j => if i < len then J i j else if j = 0 then db else nm
theorem ext_lt {J : Nat → Nat → ByteArray} {len : Nat} {db nm : ByteArray} {i : Nat} (h : i < len) (j : Nat) : ext J len db nm i j = J i j := by unfold ext; rw [if_pos h]
theorem ext_0 (J : Nat → Nat → ByteArray) (len : Nat) (db nm : ByteArray) : ext J len db nm len 0 = db := by unfold ext; rw [if_neg (by omega), if_pos rfl]
theorem ext_1 (J : Nat → Nat → ByteArray) (len : Nat) (db nm : ByteArray) : ext J len db nm len 1 = nm := by unfold ext; rw [if_neg (by omega), if_neg (by omega)]

theorem lc_congr {h h' : Nat → Option ByteArray} : ∀ {k : Nat}, (∀ j, j < k → h j = h' j) → lc h k = lc h' k
  | 0, _ => rfl
  | k + 1, e => by
    show lcStep (lc h k) k (h k) = lcStep (lc h' k) k (h' k)
    rw [e k (by omega), lc_congr (fun j hj => e j (by omega))]

theorem lc_ext (J U : Nat → Nat → ByteArray) (len len2 : Nat) (db nm : ByteArray) : lc (hits (ext J len db nm) U len2) (len + 1) = lcStep (lc (hits J U len2) len) len (look U len2 db nm) := by
  show lcStep _ _ (hits (ext J len db nm) U len2 len) = _
  unfold hits
  rw [ext_0, ext_1]
  congr 1
  exact lc_congr fun j hj => by simp only [ext_lt hj]

theorem Q6.below {N : Nat} {w wr w' : World} {a : Option Addr} {len : Nat} {J : Nat → Nat → ByteArray} {a2 : Option Addr} {len2 : Nat} {U : Nat → Nat → ByteArray} (h : Q6 N w wr a len J a2 len2 U) (hb : Below wr.heap.size wr w') (hN : N ≤ wr.heap.size) : Q6 N w w' a len J a2 len2 U :=
  ⟨h.1.trans (hb.mono hN), h.2.1.below (by omega) hb, h.2.2.below (by omega) hb⟩

set_option maxRecDepth 10000 in
set_option maxHeartbeats 2000000 in
theorem law6_any (a : Option Addr) (len cap : Nat) (J : Nat → Nat → ByteArray) (a2 : Option Addr) (len2 cap2 : Nat) (U : Nat → Nat → ByteArray) (db nm : ByteArray) (w : World)
    (hl : len ≤ maxLen) (hn : a = none → len = 0) (hr : RowM 2 w a len J) (hf : FitM 2 len J) (hl2 : len2 ≤ maxLen) (hn2 : a2 = none → len2 = 0) (hr2 : RowM 3 w a2 len2 U) (hf2 : FitM 3 len2 U) (hd : db.size ≤ maxLen) (hm : nm.size ≤ maxLen) :
    Calls Try.prog 6 #[.slice a len cap, .slice a2 len2 cap2, .string db, .string nm] w fun e w' => e = .returned (.bool true) ∧ Below w.heap.size w w' := by
  go_enter Try.func6, Try.ntmps6
  go_wp2_with fail
  refine (zzBytes22_any a len cap J a2 len2 cap2 U db nm w hl hr hf hl2 hr2 hf2 hd hm).mono ?_
  rintro e w' ⟨⟨b, rfl⟩, rfl⟩
  unfold maxLen at hd hm
  cases b
  · go_wp2
    go_ret
    exact ⟨rfl, Below.refl _ _⟩
  by_cases h12 : len ≤ 4096
  · by_cases h13 : len2 ≤ 4096
    · by_cases hdn : db.size ≤ 65536 ∧ nm.size ≤ 65536
      · obtain ⟨hd1, hm1⟩ := hdn
        go_wp2_with fail
        refine (pairsBytes_any a len cap J _ hl hr hf).mono ?_
        rintro e w' ⟨⟨t, ht0, ht1, rfl⟩, rfl⟩
        go_wp2_with fail
        refine (triplesBytes_any a2 len2 cap2 U _ hl2 hr2 hf2).mono ?_
        rintro e w' ⟨⟨t2, ht20, ht21, rfl⟩, rfl⟩
        by_cases hcap : t + t2 + db.size + nm.size ≤ 1048576
        · go_wp2_with fail
          refine (copyPairs_any a len cap J _ h12 hn hr).mono ?_
          rintro e w1 ⟨a', cap', rfl, hb1, hr1⟩
          go_wp2_with fail
          refine (copyTriples_any a2 len2 cap2 U _ h13 hn2 (hr2.below (by omega) hb1)).mono ?_
          rintro e w2 ⟨a2', cap2', rfl, hb2, hr22⟩
          have hq2 : Q6 w.heap.size w w2 a' len J a2' len2 U := ⟨hb1.trans (hb2.mono hb1.size), hr1.below (by omega) hb2, hr22⟩
          clear hb1 hr1 hb2 hr22 hr hf hr2 hf2 hl hl2
          obtain ⟨f, l, r, hlc⟩ : ∃ f l r, lc (hits J U len2) len = (f, l, r) := ⟨_, _, _, rfl⟩
          have HLC : Hid (lc (hits J U len2) len = (f, l, r)) := hlc
          clear hlc
          go_wp2_with fail
          refine (lastCheck_is (by omega) hq2.2.1 (by omega) hq2.2.2 HLC.out).mono ?_
          rintro e w3 ⟨rfl, hb3⟩
          have hq := hq2.below hb3 hq2.1.size
          clear hq2 hb3
          have hmk := make36 (len + 1) (by omega)
          rw [show ((len + 1 : Nat) : Int) = (len : Int) + 1 by omega] at hmk
          go_wp2_with fail
          go_loopg [13] len (fun g i wr => ∃ k : Nat, g + k = len ∧ i = .int .i64 k ∧ CopyRel w3 wr w3.heap.size ((len + 1) * 2) (flatM 2 (ext J len db nm)) (k * 2))
          case atStart => exact ⟨0, by omega, rfl, by rw [Nat.zero_mul]; exact CopyRel.start w3 _ _ _ (made2_size (len + 1)) _⟩
          case round =>
            obtain ⟨k, hk, rfl, hc⟩ := hrel
            by_cases hlt : k < len
            · obtain ⟨b0, off, rfl, h0, h1⟩ := hq.2.1.at2 hlt
              have hb : b0 < w3.heap.size := World.block_lt_of_cell? w3 _ h0
              obtain ⟨⟨v0, c0⟩, f0⟩ := hc.cell (k * 2) (by omega)
              obtain ⟨⟨v1, c1⟩, f1⟩ := hc.cell (k * 2 + 1) (by omega)
              rw [← hc.1.cell (p := ⟨b0, _, none⟩) hb] at h0 h1
              rw [← ext_lt (J := J) (db := db) (nm := nm) hlt 0] at h0
              rw [← ext_lt (J := J) (db := db) (nm := nm) hlt 1] at h1
              have hkl : (k : Int) < (len : Int) := by omega
              have hkl1 : (k : Int) < (len : Int) + 1 := by omega
              clear hmk
              go_wp2_with fail
              go_roundg (len - k - 1)
              case measure => omega
              case rel => exact ⟨k + 1, by omega, by go_num, copy2_round hc (by omega)⟩
            · obtain rfl : k = len := by omega
              obtain ⟨⟨v0, c0⟩, f0⟩ := hc.cell (k * 2) (by omega)
              obtain ⟨⟨v1, c1⟩, f1⟩ := hc.cell (k * 2 + 1) (by omega)
              have hR := copyM_row (copy2_round hc (by omega))
              have hB := (copy2_round hc (show k * 2 + 1 < (k + 1) * 2 by omega)).1
              rw [ext_0, ext_1] at hR hB
              have hkl1 : (k : Int) < (k : Int) + 1 := by omega
              clear hmk
              go_wp2_with fail
              generalize (wr.setCell ⟨w3.heap.size, k * 2, none⟩ (.string db)).setCell ⟨w3.heap.size, k * 2 + 1, none⟩ (.string nm) = w5 at *
              have hU5 := hq.2.2.below (by omega) hB
              have hB5 : Below w.heap.size w w5 := hq.1.trans (hB.mono hq.1.size)
              have hlx := lc_ext J U k len2 db nm
              rw [HLC.out] at hlx
              clear hq hc c0 c1 f0 f1 hB
              rcases first_hit (hits J U len2) k with hN | ⟨F, r0, hF, hN, hH⟩
              · have e0 := HLC.out
                rw [lc_none hN] at e0
                obtain ⟨rfl, rfl, rfl⟩ : f = -1 ∧ l = -1 ∧ r = ⟨#[]⟩ := by
                  simp only [Prod.mk.injEq] at e0; exact ⟨e0.1.symm, e0.2.1.symm, e0.2.2.symm⟩
                cases hnr : look U len2 db nm with
                | none =>
                  have HX : Hid (lc (hits (ext J k db nm) U len2) (k + 1) = (-1, -1, ⟨#[]⟩)) := by rw [hnr] at hlx; exact hlx
                  have HE : Hid (look U len2 db nm = none) := hnr
                  clear hnr hlx hN e0
                  go_wp2_with fail
                  refine (lastCheck_is (by omega) hR (by omega) hU5 (HX.out)).mono ?_
                  rintro e w6 ⟨rfl, hb6⟩
                  go_wp2_with fail
                  refine (entry_none (by omega) HE.out (hU5.below (by omega) hb6)).mono ?_
                  rintro e w7 ⟨rfl, rfl⟩
                  go_wp2
                  go_ret
                  exact ⟨rfl, hB5.trans (hb6.mono hB5.size)⟩
                | some r1 =>
                  have HX : Hid (lc (hits (ext J k db nm) U len2) (k + 1) = ((k : Int), (k : Int), r1)) := by rw [hnr] at hlx; exact hlx
                  have HE : Hid (look U len2 db nm = some r1) := hnr
                  clear hnr hlx hN e0
                  go_wp2_with fail
                  refine (lastCheck_is (by omega) hR (by omega) hU5 (HX.out)).mono ?_
                  rintro e w6 ⟨rfl, hb6⟩
                  go_wp2_with fail
                  refine (entry_some (by omega) HE.out (hU5.below (by omega) hb6)).mono ?_
                  rintro e w7 ⟨rfl, rfl⟩
                  go_wp2
                  go_ret
                  exact ⟨rfl, hB5.trans (hb6.mono hB5.size)⟩
              · obtain ⟨G, g1, g2, g3, g4, g5⟩ := lc_some hN hH hF
                have e0 := HLC.out
                rw [g1] at e0
                obtain ⟨rfl, rfl, rfl⟩ : f = (F : Int) ∧ l = (G : Int) ∧ r = r0 := by
                  simp only [Prod.mk.injEq] at e0; exact ⟨e0.1.symm, e0.2.1.symm, e0.2.2.symm⟩
                have hF0 : ¬ ((F : Int) < 0) := by omega
                have hF1 : (0 : Int) ≤ (F : Int) := by omega
                cases hnr : look U len2 db nm with
                | none =>
                  have HX : Hid (lc (hits (ext J k db nm) U len2) (k + 1) = ((F : Int), (G : Int), r)) := by rw [hnr] at hlx; exact hlx
                  have HE : Hid (look U len2 db nm = none) := hnr
                  clear hnr hlx hN e0 hH g1 g4 g5
                  go_wp2_with fail
                  refine (lastCheck_is (by omega) hR (by omega) hU5 (HX.out)).mono ?_
                  rintro e w6 ⟨rfl, hb6⟩
                  go_wp2_with fail
                  refine (entry_none (by omega) HE.out (hU5.below (by omega) hb6)).mono ?_
                  rintro e w7 ⟨rfl, rfl⟩
                  go_wp2
                  go_ret
                  exact ⟨rfl, hB5.trans (hb6.mono hB5.size)⟩
                | some r1 =>
                  have HE : Hid (look U len2 db nm = some r1) := hnr
                  by_cases hrr : r1 = r
                  · have HX : Hid (lc (hits (ext J k db nm) U len2) (k + 1) = ((F : Int), (k : Int), r)) := by
                      rw [hnr] at hlx; rw [Hid, hlx]; simp [lcStep, hF0, hrr]
                    have hrr' : (r1.toList == r.toList) = true := by rw [hrr]; simp
                    clear hnr hlx hN e0 hH g1 g4 g5 hrr
                    go_wp2_with fail
                    refine (lastCheck_is (by omega) hR (by omega) hU5 (HX.out)).mono ?_
                    rintro e w6 ⟨rfl, hb6⟩
                    go_wp2_with fail
                    refine (entry_some (by omega) HE.out (hU5.below (by omega) hb6)).mono ?_
                    rintro e w7 ⟨rfl, rfl⟩
                    go_wp2
                    go_ret
                    exact ⟨rfl, hB5.trans (hb6.mono hB5.size)⟩
                  · have HX : Hid (lc (hits (ext J k db nm) U len2) (k + 1) = ((F : Int), (G : Int), r)) := by
                      rw [hnr] at hlx; rw [Hid, hlx]; simp [lcStep, hF0, hrr]
                    have hrr' := toList_ne hrr
                    clear hnr hlx hN e0 hH g1 g4 g5 hrr
                    go_wp2_with fail
                    refine (lastCheck_is (by omega) hR (by omega) hU5 (HX.out)).mono ?_
                    rintro e w6 ⟨rfl, hb6⟩
                    go_wp2_with fail
                    refine (entry_some (by omega) HE.out (hU5.below (by omega) hb6)).mono ?_
                    rintro e w7 ⟨rfl, rfl⟩
                    go_wp2
                    go_ret
                    exact ⟨rfl, hB5.trans (hb6.mono hB5.size)⟩
        · go_wp2
          go_ret
          exact ⟨rfl, Below.refl _ _⟩
      · by_cases hd1 : db.size ≤ 65536
        · have hm1 : ¬ nm.size ≤ 65536 := fun h => hdn ⟨hd1, h⟩
          clear hdn
          go_wp2
          go_ret
          exact ⟨rfl, Below.refl _ _⟩
        · clear hdn
          go_wp2
          go_ret
          exact ⟨rfl, Below.refl _ _⟩
    · go_wp2
      go_ret
      exact ⟨rfl, Below.refl _ _⟩
  · go_wp2
    go_ret
    exact ⟨rfl, Below.refl _ _⟩
end Go.Proofs.Qxb6603109a
