import Derived.Test.Qxb6603109aTries
namespace Go.Proofs.Qxb6603109a
open Go.ChangeShapes Go.WideShapes Go.ChangeAt Go.RowKit

def sameB (z : Nat → T4) (k : Nat) : Bool := alikeB (z k).sc (z k).sh (z k).tc (z k).th
def heldB (n c0 : Int) (h0 : ByteArray) (z : Nat → T4) : Nat → Bool
  | 0 => decide (1 ≤ n) && alikeB (z 0).sc (z 0).sh c0 h0
  | k + 1 => alikeB (z (k + 1)).sc (z (k + 1)).sh (z k).sc (z k).sh

/-- the first place below len at which p holds, else len -/
def First (p : Nat → Bool) (len s : Nat) : Prop := s ≤ len ∧ (∀ i, i < s → p i = false) ∧ (s < len → p s = true)

theorem first_exists (p : Nat → Bool) (len : Nat) : ∃ s, First p len s := by
  induction len with
  | zero => exact ⟨0, Nat.le_refl _, fun i hi => absurd hi (Nat.not_lt_zero _), fun h => absurd h (Nat.not_lt_zero _)⟩
  | succ n ih =>
    obtain ⟨s, h1, h2, h3⟩ := ih
    by_cases hs : s < n
    · exact ⟨s, by omega, h2, fun _ => h3 hs⟩
    · obtain rfl : s = n := by omega
      cases hp : p s
      · exact ⟨s + 1, by omega, fun i hi => by
          by_cases e : i = s
          · rw [e]; exact hp
          · exact h2 i (by omega), fun h => by omega⟩
      · exact ⟨s, by omega, h2, fun _ => hp⟩

/-- the first place at which the count of tries reaches max -/
def MaxAt (m n : Int) (len x : Nat) : Prop := x ≤ len ∧ (∀ i : Nat, i < x → n + i + 1 < m) ∧ (x < len → m ≤ n + x + 1)

def stopOf (s h x : Nat) : Nat := min (min s h) x
def callsOf (s h x len : Nat) : Nat := if stopOf s h x < len then stopOf s h x + 1 else len
def wantOf (s h x len : Nat) : Int := if stopOf s h x < len then (if stopOf s h x = s then 0 else if stopOf s h x = h then 1 else 2) else 2

theorem held_iff (n c0 : Int) (h0 : ByteArray) (z : Nat → T4) (k : Nat) (hn : 0 ≤ n) :
    (1 < n + k + 1 ∧ alikeB (z k).sc (z k).sh (pc c0 z k) (ph h0 z k) = true) ↔ heldB n c0 h0 z k = true := by
  cases k with
  | zero => simp [heldB, pc, ph]; omega
  | succ j =>
    simp only [heldB, pc, ph]
    constructor
    · exact fun h => h.2
    · exact fun h => ⟨by omega, h⟩

theorem add_quiet {m n c0 : Int} {h0 : ByteArray} {z : Nat → T4} {k : Nat} (hn : 0 ≤ n) (h1 : sameB z k = false) (h2 : heldB n c0 h0 z k = false) (h3 : n + k + 1 < m) :
    addV (n + k) (pc c0 z k) (ph h0 z k) (z k).sc (z k).sh (z k).tc (z k).th = 2 ∧ addS m (n + k) (pc c0 z k) (ph h0 z k) (z k).sc (z k).sh (z k).tc (z k).th = false := by
  have hi := held_iff n c0 h0 z k hn
  rw [h2] at hi
  rcases add_ways m (n + k) (pc c0 z k) (ph h0 z k) (z k).sc (z k).sh (z k).tc (z k).th with ⟨a, _⟩ | ⟨_, _, _, b, c⟩ | ⟨_, _, _, b, _⟩ | ⟨_, b, c, _⟩
  · unfold sameB at h1; rw [h1] at a; cases a
  · have := hi.1 ⟨b, c⟩; cases this
  · omega
  · exact ⟨b, c⟩

theorem step_early {m n c0 : Int} {h0 : ByteArray} {z : Nat → T4} {len s h x : Nat} (hn : 0 ≤ n) (F1 : First (sameB z) len s) (F2 : First (heldB n c0 h0 z) len h) (F3 : MaxAt m n len x) {k : Nat} (hk : k < stopOf s h x) :
    addV (n + k) (pc c0 z k) (ph h0 z k) (z k).sc (z k).sh (z k).tc (z k).th = 2 ∧ addS m (n + k) (pc c0 z k) (ph h0 z k) (z k).sc (z k).sh (z k).tc (z k).th = false := by
  unfold stopOf at hk
  exact add_quiet hn (F1.2.1 k (by omega)) (F2.2.1 k (by omega)) (F3.2.1 k (by omega))

theorem step_last {m n c0 : Int} {h0 : ByteArray} {z : Nat → T4} {len s h x : Nat} (hn : 0 ≤ n) (F1 : First (sameB z) len s) (F2 : First (heldB n c0 h0 z) len h) (F3 : MaxAt m n len x) {k : Nat} (hk : k + 1 = callsOf s h x len) :
    addV (n + k) (pc c0 z k) (ph h0 z k) (z k).sc (z k).sh (z k).tc (z k).th = wantOf s h x len ∧ addS m (n + k) (pc c0 z k) (ph h0 z k) (z k).sc (z k).sh (z k).tc (z k).th = decide (stopOf s h x < len) := by
  unfold callsOf at hk
  by_cases hs : stopOf s h x < len
  · rw [if_pos hs] at hk
    have hk' : k = stopOf s h x := by omega
    unfold wantOf
    rw [if_pos hs, decide_eq_true hs, ← hk']
    have hi := held_iff n c0 h0 z k hn
    unfold stopOf at hs hk'
    by_cases e1 : k = s
    · rw [if_pos e1]
      have ha : sameB z k = true := by rw [e1]; exact F1.2.2 (by omega)
      rcases add_ways m (n + k) (pc c0 z k) (ph h0 z k) (z k).sc (z k).sh (z k).tc (z k).th with ⟨_, b, c⟩ | ⟨a, _⟩ | ⟨a, _⟩ | ⟨a, _⟩
      · exact ⟨b, c⟩
      all_goals (unfold sameB at ha; rw [ha] at a; cases a)
    · rw [if_neg e1]
      have ha : sameB z k = false := F1.2.1 k (by omega)
      by_cases e2 : k = h
      · rw [if_pos e2]
        have hh : heldB n c0 h0 z k = true := by rw [e2]; exact F2.2.2 (by omega)
        rw [hh] at hi
        have hc := hi.2 rfl
        rcases add_ways m (n + k) (pc c0 z k) (ph h0 z k) (z k).sc (z k).sh (z k).tc (z k).th with ⟨a, _⟩ | ⟨_, b, c, _⟩ | ⟨_, _, _, _, d⟩ | ⟨_, _, _, _, d⟩
        · unfold sameB at ha; rw [ha] at a; cases a
        · exact ⟨b, c⟩
        · exact absurd hc d
        · exact absurd hc d
      · rw [if_neg e2]
        have hh : heldB n c0 h0 z k = false := F2.2.1 k (by omega)
        rw [hh] at hi
        have hx : m ≤ n + k + 1 := by
          have := F3.2.2 (by omega)
          rw [show (k : Int) = (x : Int) by omega]; exact this
        rcases add_ways m (n + k) (pc c0 z k) (ph h0 z k) (z k).sc (z k).sh (z k).tc (z k).th with ⟨a, _⟩ | ⟨_, _, _, b, c⟩ | ⟨_, b, c, _⟩ | ⟨_, _, _, b, _⟩
        · unfold sameB at ha; rw [ha] at a; cases a
        · have := hi.1 ⟨b, c⟩; cases this
        · exact ⟨b, c⟩
        · omega
  · rw [if_neg hs] at hk
    unfold wantOf
    rw [if_neg hs, decide_eq_false hs]
    exact step_early hn F1 F2 F3 (by omega)

theorem calls_le (s h x len : Nat) : callsOf s h x len ≤ len := by unfold callsOf; split <;> omega
theorem early_of {s h x len k : Nat} (hk : k + 1 < callsOf s h x len) : k < stopOf s h x := by unfold callsOf at hk; split at hk <;> omega
end Go.Proofs.Qxb6603109a
