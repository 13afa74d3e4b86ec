import Derived.Test.Qxb6603109aNest
namespace Go.Proofs.Qxb6603109a
open Go.ChangeShapes Go.WideShapes Go.ChangeAt Go.RowKit

/-- a row of tables: five cells each -/
def RowT (w : World) (a : Option Addr) (len : Nat) (J : Nat → Nat → ByteArray) : Prop :=
  len = 0 ∨ ∃ b off, a = some ⟨b, off, none⟩ ∧ ∀ i, i < len →
    w.cell? ⟨b, off + i * 5, none⟩ = some (.string (J i 0)) ∧ w.cell? ⟨b, off + i * 5 + 1, none⟩ = some (.string (J i 1)) ∧
    w.cell? ⟨b, off + i * 5 + 2, none⟩ = some (.slice none 0 0) ∧ w.cell? ⟨b, off + i * 5 + 3, none⟩ = some (.slice none 0 0) ∧ w.cell? ⟨b, off + i * 5 + 4, none⟩ = some (.slice none 0 0)

theorem RowT.at {w : World} {a : Option Addr} {len : Nat} {J : Nat → Nat → ByteArray} (h : RowT w a len J) {k : Nat} (hk : k < len) : ∃ b off, a = some ⟨b, off, none⟩ ∧
    w.cell? ⟨b, off + k * 5, none⟩ = some (.string (J k 0)) ∧ w.cell? ⟨b, off + k * 5 + 1, none⟩ = some (.string (J k 1)) ∧
    w.cell? ⟨b, off + k * 5 + 2, none⟩ = some (.slice none 0 0) ∧ w.cell? ⟨b, off + k * 5 + 3, none⟩ = some (.slice none 0 0) ∧ w.cell? ⟨b, off + k * 5 + 4, none⟩ = some (.slice none 0 0) := by
  rcases h with h | ⟨b, off, rfl, h⟩
  · omega
  · exact ⟨b, off, rfl, h k hk⟩

theorem ret_lc {f l : Int} {r : ByteArray} {st : Int × Int × ByteArray} (h : st = (f, l, r)) : Ending.returned (.tuple #[.int .i64 f, .int .i64 l, .string r]) = .returned (.tuple #[.int .i64 st.1, .int .i64 st.2.1, .string st.2.2]) := by rw [h]

set_option maxHeartbeats 1000000 in
theorem lastCheck_any (a : Option Addr) (len cap : Nat) (J : Nat → Nat → ByteArray) (M : Nat) (L : ByteArray → ByteArray → Option ByteArray) (w : World) (hl : len ≤ 8192) (hr : RowT w a len J) (hm : MS w M L) :
    Calls Try.prog 24 #[.slice a len cap, .map (some M)] w fun e w' =>
      e = .returned (.tuple #[.int .i64 (lc (fun i => L (J i 0) (J i 1)) len).1, .int .i64 (lc (fun i => L (J i 0) (J i 1)) len).2.1, .string (lc (fun i => L (J i 0) (J i 1)) len).2.2]) ∧ Below w.heap.size w w' := by
  go_enter Try.func24, Try.ntmps24
  go_wp2
  go_loopg [4, 5, 6, 13] len (fun g f l r i wr => ∃ k : Nat, ∃ fv lv : Int, ∃ rv : ByteArray, g + k = len ∧ Hid (lc (fun i => L (J i 0) (J i 1)) k = (fv, lv, rv)) ∧ f = .int .i64 fv ∧ l = .int .i64 lv ∧ r = .string rv ∧ i = .int .i64 k ∧ Below w.heap.size w wr)
  case atStart => exact ⟨0, -1, -1, ⟨#[]⟩, by omega, rfl, rfl, rfl, rfl, rfl, Below.refl _ _⟩
  case round =>
    obtain ⟨k, fv, lv, rv, hg, HL, rfl, rfl, rfl, rfl, hb⟩ := hrel
    by_cases hlt : k < len
    · obtain ⟨b, off, rfl, h0, h1, h2, h3, h4⟩ := hr.at hlt
      have hbl : b < w.heap.size := World.block_lt_of_cell? w _ h0
      rw [← hb.cell (p := ⟨b, _, none⟩) hbl] at h0 h1 h2 h3 h4
      obtain ⟨o, hlook⟩ := (hm.below hb).look (J k 0) (J k 1)
      have hkl : (k : Int) < (len : Int) := by omega
      clear hr hm
      cases hL : L (J k 0) (J k 1) with
      | none =>
        have HS : Hid (lc (fun i => L (J i 0) (J i 1)) (k + 1) = (fv, lv, rv)) := by
          have := HL.out; show lcStep _ _ (L (J k 0) (J k 1)) = _; rw [this, hL]; rfl
        have HLk : Hid (∀ W', Below wr.heap.size wr W' →
          (Instr.lookup 62 (.map (some M)) (.string (J k 0)) false).run Try.prog W' = .ok (.map o) W' ∧
          (Instr.lookup 63 (.map o) (.string (J k 1)) true).run Try.prog W' = .ok (.tuple #[.agg #[.string ⟨#[]⟩, .string ⟨#[]⟩], .bool false]) W') := by
          rw [hL] at hlook; exact hlook
        clear hL HL hlook
        go_wp2_with (first | (at_lookup; refine wpList_lookup_run rfl _ _ 62 false rfl (.map (some M)) (.string (J k 0)) (.map o) rfl rfl (HLk.out _ ((Below.refl _ _).alloc (Nat.le_refl _) _)).1 ?_) | (at_lookup; refine wpList_lookup_run rfl _ _ 63 true rfl (.map o) (.string (J k 1)) _ rfl rfl (HLk.out _ ((Below.refl _ _).alloc (Nat.le_refl _) _)).2 ?_))
        go_roundg (len - k - 1)
        case measure => omega
        case rel => exact ⟨k + 1, fv, lv, rv, by omega, HS, rfl, rfl, rfl, by go_num, hb.trans (((Below.refl _ _).alloc hb.size _).alloc (by have := hb.size; simp; omega) _)⟩
      | some r =>
        have HLk : Hid (∀ W', Below wr.heap.size wr W' →
          (Instr.lookup 62 (.map (some M)) (.string (J k 0)) false).run Try.prog W' = .ok (.map o) W' ∧
          (Instr.lookup 63 (.map o) (.string (J k 1)) true).run Try.prog W' = .ok (.tuple #[.agg #[.string r, .string ⟨#[]⟩], .bool true]) W') := by
          rw [hL] at hlook; exact hlook
        by_cases hf0 : fv < 0
        · have HS : Hid (lc (fun i => L (J i 0) (J i 1)) (k + 1) = ((k : Int), (k : Int), r)) := by
            have := HL.out; show lcStep _ _ (L (J k 0) (J k 1)) = _; rw [this, hL]; simp [lcStep, hf0]
          clear hL HL hlook
          go_wp2_with (first | (at_lookup; refine wpList_lookup_run rfl _ _ 62 false rfl (.map (some M)) (.string (J k 0)) (.map o) rfl rfl (HLk.out _ ((Below.refl _ _).alloc (Nat.le_refl _) _)).1 ?_) | (at_lookup; refine wpList_lookup_run rfl _ _ 63 true rfl (.map o) (.string (J k 1)) _ rfl rfl (HLk.out _ ((Below.refl _ _).alloc (Nat.le_refl _) _)).2 ?_))
          go_quiet (fail)
          go_wp2
          go_roundg (len - k - 1)
          case measure => omega
          case rel => exact ⟨k + 1, k, k, r, by omega, HS, rfl, rfl, rfl, by go_num, hb.trans (below_drewN (((Below.refl _ _).alloc hb.size _).alloc (by have := hb.size; simp; omega) _) _)⟩
        · by_cases hre : r = rv
          · have HS : Hid (lc (fun i => L (J i 0) (J i 1)) (k + 1) = (fv, (k : Int), rv)) := by
              have := HL.out; show lcStep _ _ (L (J k 0) (J k 1)) = _; rw [this, hL]; simp [lcStep, hf0, hre]
            have hre' : (r.toList == rv.toList) = true := by rw [hre]; simp
            clear hL HL hlook hre
            go_wp2_with (first | (at_lookup; refine wpList_lookup_run rfl _ _ 62 false rfl (.map (some M)) (.string (J k 0)) (.map o) rfl rfl (HLk.out _ ((Below.refl _ _).alloc (Nat.le_refl _) _)).1 ?_) | (at_lookup; refine wpList_lookup_run rfl _ _ 63 true rfl (.map o) (.string (J k 1)) _ rfl rfl (HLk.out _ ((Below.refl _ _).alloc (Nat.le_refl _) _)).2 ?_))
            go_roundg (len - k - 1)
            case measure => omega
            case rel => exact ⟨k + 1, fv, k, rv, by omega, HS, rfl, rfl, rfl, by go_num, hb.trans (((Below.refl _ _).alloc hb.size _).alloc (by have := hb.size; simp; omega) _)⟩
          · have HS : Hid (lc (fun i => L (J i 0) (J i 1)) (k + 1) = (fv, lv, rv)) := by
              have := HL.out; show lcStep _ _ (L (J k 0) (J k 1)) = _; rw [this, hL]; simp [lcStep, hf0, hre]
            have hre' := toList_ne hre
            clear hL HL hlook hre
            go_wp2_with (first | (at_lookup; refine wpList_lookup_run rfl _ _ 62 false rfl (.map (some M)) (.string (J k 0)) (.map o) rfl rfl (HLk.out _ ((Below.refl _ _).alloc (Nat.le_refl _) _)).1 ?_) | (at_lookup; refine wpList_lookup_run rfl _ _ 63 true rfl (.map o) (.string (J k 1)) _ rfl rfl (HLk.out _ ((Below.refl _ _).alloc (Nat.le_refl _) _)).2 ?_))
            go_roundg (len - k - 1)
            case measure => omega
            case rel => exact ⟨k + 1, fv, lv, rv, by omega, HS, rfl, rfl, rfl, by go_num, hb.trans (((Below.refl _ _).alloc hb.size _).alloc (by have := hb.size; simp; omega) _)⟩
    · go_wp2
      go_ret3
      obtain rfl : k = len := by omega
      exact ⟨ret_lc HL.out, hb⟩
end Go.Proofs.Qxb6603109a
