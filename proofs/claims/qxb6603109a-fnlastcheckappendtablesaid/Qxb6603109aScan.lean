import Derived.Test.Qxb6603109aW21
namespace Go.Proofs.Qxb6603109a
open Go.ChangeShapes Go.WideShapes Go.ChangeAt Go.RowKit

theorem lc_none {hit : Nat → Option ByteArray} : ∀ {k : Nat}, (∀ j, j < k → hit j = none) → lc hit k = (-1, -1, ⟨#[]⟩)
  | 0, _ => rfl
  | k + 1, h => by
    show lcStep (lc hit k) k (hit k) = _
    rw [h k (by omega), lc_none (fun j hj => h j (by omega))]; rfl

/-- behind the first table with rows: first and run stand; last is the last place below k whose run is that run -/
theorem lc_some {hit : Nat → Option ByteArray} {F : Nat} {r : ByteArray} (h0 : ∀ j, j < F → hit j = none) (h1 : hit F = some r) : ∀ {k : Nat}, F < k →
    ∃ G : Nat, lc hit k = ((F : Int), (G : Int), r) ∧ F ≤ G ∧ G < k ∧ hit G = some r ∧ ∀ j, G < j → j < k → hit j ≠ some r
  | 0, h => by omega
  | k + 1, h => by
    have e : lc hit (k + 1) = lcStep (lc hit k) k (hit k) := rfl
    by_cases hk : F = k
    · subst hk
      refine ⟨F, ?_, Nat.le_refl _, by omega, h1, fun j hj hj' => by omega⟩
      rw [e, lc_none h0, h1]; rfl
    · obtain ⟨G, g1, g2, g3, g4, g5⟩ := lc_some h0 h1 (show F < k by omega)
      have hF : ¬ ((F : Int) < 0) := by omega
      cases hh : hit k with
      | none =>
        refine ⟨G, ?_, g2, by omega, g4, fun j hj hj' => ?_⟩
        · rw [e, g1, hh]; rfl
        · by_cases ej : j = k
          · rw [ej, hh]; simp
          · exact g5 j hj (by omega)
      | some r' =>
        by_cases hr : r' = r
        · refine ⟨k, ?_, by omega, by omega, by rw [hh, hr], fun j hj hj' => by omega⟩
          rw [e, g1, hh]; simp [lcStep, hF, hr]
        · refine ⟨G, ?_, g2, by omega, g4, fun j hj hj' => ?_⟩
          · rw [e, g1, hh]; simp [lcStep, hF, hr]
          · by_cases ej : j = k
            · rw [ej, hh]; simpa using hr
            · exact g5 j hj (by omega)

/-- no table has rows, or there is a first that has -/
theorem first_hit (hit : Nat → Option ByteArray) : ∀ k, (∀ j, j < k → hit j = none) ∨ ∃ F r, F < k ∧ (∀ j, j < F → hit j = none) ∧ hit F = some r
  | 0 => .inl fun j hj => by omega
  | k + 1 => by
    rcases first_hit hit k with h | ⟨F, r, h1, h2, h3⟩
    · cases hh : hit k with
      | none =>
        left
        intro j hj
        by_cases e : j = k
        · rw [e]; exact hh
        · exact h j (by omega)
      | some r => exact .inr ⟨k, r, by omega, h, hh⟩
    · exact .inr ⟨F, r, by omega, h2, h3⟩

/-- the tables' runs -/
def hits (J U : Nat → Nat → ByteArray) (n : Nat) (j : Nat) : Option ByteArray := look U n (J j 0) (J j 1)

theorem entry_none {a : Option Addr} {len cap : Nat} {U : Nat → Nat → ByteArray} {d m : ByteArray} (hl : len ≤ 8192) (h : look U len d m = none) {w : World} (hr : RowM 3 w a len U) :
    Calls Try.prog 20 #[.slice a len cap, .string d, .string m] w fun e w' => e = .returned (.tuple #[.string ⟨#[]⟩, .bool false]) ∧ w' = w :=
  (entryFor_any a len cap U d m w hl hr).mono fun e w' ⟨he, hw⟩ => ⟨by rw [he, h]; rfl, hw⟩
theorem entry_some {a : Option Addr} {len cap : Nat} {U : Nat → Nat → ByteArray} {d m r : ByteArray} (hl : len ≤ 8192) (h : look U len d m = some r) {w : World} (hr : RowM 3 w a len U) :
    Calls Try.prog 20 #[.slice a len cap, .string d, .string m] w fun e w' => e = .returned (.tuple #[.string r, .bool true]) ∧ w' = w :=
  (entryFor_any a len cap U d m w hl hr).mono fun e w' ⟨he, hw⟩ => ⟨by rw [he, h]; rfl, hw⟩

theorem lastCheck_is {a : Option Addr} {len cap : Nat} {J : Nat → Nat → ByteArray} {a2 : Option Addr} {len2 cap2 : Nat} {U : Nat → Nat → ByteArray} {w : World} {f l : Int} {r : ByteArray}
    (hl : len ≤ 8192) (hr : RowM 2 w a len J) (hl2 : len2 ≤ 8192) (hr2 : RowM 3 w a2 len2 U) (h : lc (hits J U len2) len = (f, l, r)) :
    Calls Try.prog 21 #[.slice a len cap, .slice a2 len2 cap2] w fun e w' => e = .returned (.tuple #[.int .i64 f, .int .i64 l, .string r]) ∧ Below w.heap.size w w' :=
  (zzLastCheck_any a len cap J a2 len2 cap2 U w hl hr hl2 hr2).mono fun e w' ⟨he, hb⟩ => by
    have h' : lc (fun i => look U len2 (J i 0) (J i 1)) len = (f, l, r) := h
    rw [h'] at he
    exact ⟨he, hb⟩
end Go.Proofs.Qxb6603109a
