import Derived.Test.Qxb6603109aW12
import Derived.Test.Qxb6603109aW14
import Derived.WalkSmall
namespace Go.Proofs.Qxb6603109a
open Go.ChangeShapes Go.WideShapes Go.ChangeAt Go.RowKit

theorem alikeB_eq (c1 : Int) (s1 : ByteArray) (c2 : Int) (s2 : ByteArray) : decide (c1 = c2 ∧ s1 = s2) = alikeB c1 s1 c2 s2 := by
  unfold alikeB
  by_cases h1 : c1 = c2
  · by_cases h2 : s1 = s2
    · subst h1 h2; simp
    · have := toList_ne h2; simp [h1, h2, this]
  · simp [h1]

theorem same_any (c1 c2 : Int) (s1 s2 : ByteArray) (w : World) :
    Calls Try.prog 10 #[.int .i64 c1, .string s1, .int .i64 c2, .string s2] w fun e w' => e = .returned (.bool (alikeB c1 s1 c2 s2)) ∧ w' = w :=
  (sumsEqual_any c1 c2 s1 s2 w).mono fun e w' ⟨he, hw⟩ => ⟨by rw [he, alikeB_eq], hw.symm⟩

theorem Hid.mk {p : Prop} (h : p) : Hid p := h

/-- the source that the state holds behind k tries -/
def pc (c0 : Int) (z : Nat → T4) : Nat → Int | 0 => c0 | k + 1 => (z k).sc
def ph (h0 : ByteArray) (z : Nat → T4) : Nat → ByteArray | 0 => h0 | k + 1 => (z k).sh

/-- the four ways through 'add' -/
theorem add_ways (m n c : Int) (h : ByteArray) (c1 : Int) (s1 : ByteArray) (c2 : Int) (s2 : ByteArray) :
    (alikeB c1 s1 c2 s2 = true ∧ addV n c h c1 s1 c2 s2 = 0 ∧ addS m n c h c1 s1 c2 s2 = true) ∨
    (alikeB c1 s1 c2 s2 = false ∧ addV n c h c1 s1 c2 s2 = 1 ∧ addS m n c h c1 s1 c2 s2 = true ∧ 1 < n + 1 ∧ alikeB c1 s1 c h = true) ∨
    (alikeB c1 s1 c2 s2 = false ∧ addV n c h c1 s1 c2 s2 = 2 ∧ addS m n c h c1 s1 c2 s2 = true ∧ m ≤ n + 1 ∧ ¬ (1 < n + 1 ∧ alikeB c1 s1 c h = true)) ∨
    (alikeB c1 s1 c2 s2 = false ∧ addV n c h c1 s1 c2 s2 = 2 ∧ addS m n c h c1 s1 c2 s2 = false ∧ n + 1 < m ∧ ¬ (1 < n + 1 ∧ alikeB c1 s1 c h = true)) := by
  unfold addV addS
  generalize alikeB c1 s1 c2 s2 = A
  generalize alikeB c1 s1 c h = C
  by_cases h1 : 1 < n + 1
  · by_cases h2 : m ≤ n + 1
    · cases A <;> cases C <;> simp [h1, h2]
    · have h3 : n + 1 < m := by omega
      cases A <;> cases C <;> simp [h1, h2, h3]
  · by_cases h2 : m ≤ n + 1
    · cases A <;> cases C <;> simp [h1, h2]
    · have h3 : n + 1 < m := by omega
      cases A <;> cases C <;> simp [h1, h2, h3]

theorem add_cases (m : Int) (k : Nat) (z : Nat → T4) :
    (alikeB (z k).sc (z k).sh (z k).tc (z k).th = true ∧ addV k (pc 0 z k) (ph ⟨#[]⟩ z k) (z k).sc (z k).sh (z k).tc (z k).th = 0 ∧ addS m k (pc 0 z k) (ph ⟨#[]⟩ z k) (z k).sc (z k).sh (z k).tc (z k).th = true) ∨
    (alikeB (z k).sc (z k).sh (z k).tc (z k).th = false ∧ addV k (pc 0 z k) (ph ⟨#[]⟩ z k) (z k).sc (z k).sh (z k).tc (z k).th = 1 ∧ addS m k (pc 0 z k) (ph ⟨#[]⟩ z k) (z k).sc (z k).sh (z k).tc (z k).th = true ∧ 1 ≤ k ∧ alikeB (z k).sc (z k).sh (z (k - 1)).sc (z (k - 1)).sh = true) ∨
    (alikeB (z k).sc (z k).sh (z k).tc (z k).th = false ∧ addV k (pc 0 z k) (ph ⟨#[]⟩ z k) (z k).sc (z k).sh (z k).tc (z k).th = 2 ∧ addS m k (pc 0 z k) (ph ⟨#[]⟩ z k) (z k).sc (z k).sh (z k).tc (z k).th = true) ∨
    (alikeB (z k).sc (z k).sh (z k).tc (z k).th = false ∧ addV k (pc 0 z k) (ph ⟨#[]⟩ z k) (z k).sc (z k).sh (z k).tc (z k).th = 2 ∧ addS m k (pc 0 z k) (ph ⟨#[]⟩ z k) (z k).sc (z k).sh (z k).tc (z k).th = false ∧ (k : Int) + 1 < m) := by
  rcases add_ways m k (pc 0 z k) (ph ⟨#[]⟩ z k) (z k).sc (z k).sh (z k).tc (z k).th with h | ⟨h1, h2, h3, h4, h5⟩ | ⟨h1, h2, h3, _, _⟩ | ⟨h1, h2, h3, h4, _⟩
  · exact .inl h
  · refine .inr (.inl ⟨h1, h2, h3, ?_⟩)
    cases k with
    | zero => omega
    | succ j => exact ⟨by omega, h5⟩
  · exact .inr (.inr (.inl ⟨h1, h2, h3⟩))
  · exact .inr (.inr (.inr ⟨h1, h2, h3, h4⟩))

/-- the row lies below block B -/
def RowIn (w : World) (a : Option Addr) (len : Nat) (z : Nat → T4) (B : Nat) : Prop := Row4 w a len z ∧ ∀ b off, a = some ⟨b, off, none⟩ → 0 < len → b < B

theorem RowIn.of {w : World} {a : Option Addr} {len : Nat} {z : Nat → T4} (h : Row4 w a len z) : RowIn w a len z w.heap.size :=
  ⟨h, fun b off ha hl => by
    obtain ⟨b', off', ha', h0, _⟩ := h.at hl
    have e : b = b' := by rw [ha] at ha'; simpa using (congrArg (fun x => x.map Addr.block) ha')
    subst e
    exact World.block_lt_of_cell? w _ h0⟩

theorem RowIn.below {w w' : World} {a : Option Addr} {len : Nat} {z : Nat → T4} {B : Nat} (h : RowIn w a len z B) (hb : Below B w w') : RowIn w' a len z B := by
  refine ⟨?_, h.2⟩
  rcases h.1 with h0 | ⟨b, off, rfl, hc⟩
  · exact .inl h0
  · refine .inr ⟨b, off, rfl, fun i hi => ?_⟩
    have hlt : b < B := h.2 b off rfl (by omega)
    rw [hb.cell (p := ⟨b, _, none⟩) hlt, hb.cell (p := ⟨b, _, none⟩) hlt, hb.cell (p := ⟨b, _, none⟩) hlt, hb.cell (p := ⟨b, _, none⟩) hlt]
    exact hc i hi

/-- at the head of a round -/
def LRel (N : Nat) (w wr : World) (a : Option Addr) (len B : Nat) (z : Nat → T4) (m : Int) (k : Nat) (s : Bool) : Prop :=
  Below N w wr ∧ N ≤ B ∧ B < wr.heap.size ∧ RowIn wr a len z B ∧ St wr B m k (pc 0 z k) (ph ⟨#[]⟩ z k) ∧ (s = false → k = 0 ∨ (k : Int) < m) ∧ (s = true → 1 ≤ k ∧ (k = 1 ∨ (k : Int) ≤ m))

/-- behind a try: all of the relation but for what the answer says -/
theorem lrel_next {N : Nat} {w wr w3 : World} {a : Option Addr} {len B : Nat} {z : Nat → T4} {m : Int} {k : Nat} (q1 : Below N w wr) (q2 : N ≤ B) (q3 : B < wr.heap.size) (q4 : RowIn wr a len z B)
    (hst : St w3 B m ((k : Int) + 1) (z k).sc (z k).sh) (hb : Below B wr.drew w3) (s : Bool) (h0 : s = false → (k : Int) + 1 < m) (h1 : k = 0 ∨ (k : Int) < m) (n : Nat) : LRel N w (w3.drewN n) a len B z m (k + 1) s := by
  have hb' : Below B wr w3 := (Below.refl _ wr).drew.trans hb
  have hst' : St w3 B m ((k + 1 : Nat) : Int) (z k).sc (z k).sh := by
    rw [show ((k + 1 : Nat) : Int) = (k : Int) + 1 by omega]; exact hst
  refine ⟨below_drewN (q1.trans (hb'.mono q2)) n, q2, Nat.lt_of_lt_of_le q3 hb'.size, (q4.below hb').below (below_drewN (Below.refl _ _) n), hst'.drewN n, fun h => .inr ?_, fun _ => ⟨by omega, ?_⟩⟩
  · have := h0 h; omega
  · omega


theorem LRel.drewN {N : Nat} {w wr : World} {a : Option Addr} {len B : Nat} {z : Nat → T4} {m : Int} {k : Nat} {s : Bool} (h : LRel N w wr a len B z m k s) (n : Nat) : LRel N w (wr.drewN n) a len B z m k s := by
  obtain ⟨h1, h2, h3, h4, h5, h6, h7⟩ := h
  exact ⟨below_drewN h1 n, h2, h3, h4.below (below_drewN (Below.refl _ _) n), h5.drewN n, h6, h7⟩
end Go.Proofs.Qxb6603109a
