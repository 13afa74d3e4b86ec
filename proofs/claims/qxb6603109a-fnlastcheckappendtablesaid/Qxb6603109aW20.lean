import Derived.Test.Qxb6603109aBase2
namespace Go.Proofs.Qxb6603109a
open Go.ChangeShapes Go.WideShapes Go.ChangeAt Go.RowKit

/-- the run of the last of the first k entries that names the table -/
def look (U : Nat → Nat → ByteArray) : Nat → ByteArray → ByteArray → Option ByteArray
  | 0, _, _ => none
  | k + 1, d, m => if U k 0 = d ∧ U k 1 = m then some (U k 2) else look U k d m

theorem look_succ (U : Nat → Nat → ByteArray) (k : Nat) (d m : ByteArray) : look U (k + 1) d m = if U k 0 = d ∧ U k 1 = m then some (U k 2) else look U k d m := rfl

theorem ret_entry {x y : ByteArray} {p q : Bool} (h1 : x = y) (h2 : p = q) : Ending.returned (.tuple #[.string x, .bool p]) = .returned (.tuple #[.string y, .bool q]) := by rw [h1, h2]

set_option maxHeartbeats 400000 in
theorem entryFor_any (a : Option Addr) (len cap : Nat) (U : Nat → Nat → ByteArray) (d m : ByteArray) (w : World) (hl : len ≤ 8192) (hr : RowM 3 w a len U) :
    Calls Try.prog 20 #[.slice a len cap, .string d, .string m] w fun e w' => e = .returned (.tuple #[.string ((look U len d m).getD ⟨#[]⟩), .bool (look U len d m).isSome]) ∧ w' = w := by
  go_enter Try.func20, Try.ntmps20
  go_wp2
  go_loopg [8] len (fun g i wr => w = wr ∧ g ≤ len ∧ Hid (look U len d m = look U g d m) ∧ i = .int .i64 ((g : Int) - 1))
  case atStart => exact ⟨rfl, Nat.le_refl _, rfl, rfl⟩
  case round =>
    obtain ⟨hw, hg, hk, hi⟩ := hrel
    subst hw
    cases gk with
    | zero =>
      obtain rfl : u8 = .int .i64 (-1) := hi
      go_wp2
      go_ret2
      exact ⟨ret_entry (by rw [hk.out]; rfl) (by rw [hk.out]; rfl), rfl⟩
    | succ j =>
      obtain rfl : u8 = .int .i64 j := by rw [hi]; go_num
      obtain ⟨b, off, rfl, h0, h1, h2⟩ := hr.at3 (show j < len by omega)
      have hjl : (j : Int) < (len : Int) := by omega
      clear hr hi
      by_cases e1 : U j 0 = d
      · have e1' : ((U j 0).toList == d.toList) = true := by rw [e1]; simp
        by_cases e2 : U j 1 = m
        · have e2' : ((U j 1).toList == m.toList) = true := by rw [e2]; simp
          have HK : Hid (look U len d m = some (U j 2)) := by
            have := hk.out; rw [look_succ, if_pos ⟨e1, e2⟩] at this; exact this
          clear e1 e2 hk
          go_wp2
          go_ret2
          exact ⟨ret_entry (by rw [HK.out]; rfl) (by rw [HK.out]; rfl), rfl⟩
        · have e2' := toList_ne e2
          have HK : Hid (look U len d m = look U j d m) := by
            have := hk.out; rw [look_succ, if_neg (fun h => e2 h.2)] at this; exact this
          clear e1 e2 hk
          go_wp2
          go_roundg j
          case measure => omega
          case rel => exact ⟨rfl, by omega, HK, rfl⟩
      · have e1' := toList_ne e1
        have HK : Hid (look U len d m = look U j d m) := by
          have := hk.out; rw [look_succ, if_neg (fun h => e1 h.1)] at this; exact this
        clear e1 hk
        go_wp2
        go_roundg j
        case measure => omega
        case rel => exact ⟨rfl, by omega, HK, rfl⟩
end Go.Proofs.Qxb6603109a
