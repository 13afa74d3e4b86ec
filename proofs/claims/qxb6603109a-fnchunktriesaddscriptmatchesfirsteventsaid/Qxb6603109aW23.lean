import Derived.Test.Qxb6603109aBase
import Derived.Deep.Light
import Derived.WalkSmall
namespace Go.Proofs.Qxb6603109a
open Go.ChangeShapes Go.WideShapes Go.ChangeAt Go.RowKit

/-- the state of a chunk: block B holds max, n, source.count, source.hash -/
def St (w : World) (B : Nat) (m n c : Int) (h : ByteArray) : Prop :=
  w.cell? ⟨B, 0, none⟩ = some (.int .i64 m) ∧ w.cell? ⟨B, 1, none⟩ = some (.int .i64 n) ∧ w.cell? ⟨B, 2, none⟩ = some (.int .i64 c) ∧ w.cell? ⟨B, 3, none⟩ = some (.string h) ∧
  w.frozen? ⟨B, 1, none⟩ = false ∧ w.frozen? ⟨B, 2, none⟩ = false ∧ w.frozen? ⟨B, 3, none⟩ = false

theorem new_any (m n c : Int) (h : ByteArray) (w : World) :
    Calls Try.prog 11 #[.int .i64 m, .int .i64 n, .int .i64 c, .string h] w fun e w' => e = .returned (.pointer (some ⟨w.heap.size, 0, none⟩)) ∧ St w' w.heap.size m n c h ∧ Below w.heap.size w w' ∧ w.heap.size < w'.heap.size := by
  go_enter Try.func11, Try.ntmps11
  go_wp2
  go_ret
  refine ⟨rfl, ?_, (Below.refl _ _).alloc (Nat.le_refl _) _, by simp⟩
  simp [St]

/-- two sums alike -/
def alikeB (c1 : Int) (s1 : ByteArray) (c2 : Int) (s2 : ByteArray) : Bool := c1 == c2 && s1.toList == s2.toList

/-- what 'add' answers in a state (m, n, c, h) to the sums (c1, s1), (c2, s2) -/
def addV (n c : Int) (h : ByteArray) (c1 : Int) (s1 : ByteArray) (c2 : Int) (s2 : ByteArray) : Int :=
  if alikeB c1 s1 c2 s2 = true then 0 else if decide (1 < n + 1) && alikeB c1 s1 c h then 1 else 2
def addS (m n c : Int) (h : ByteArray) (c1 : Int) (s1 : ByteArray) (c2 : Int) (s2 : ByteArray) : Bool :=
  alikeB c1 s1 c2 s2 || (decide (1 < n + 1) && alikeB c1 s1 c h) || decide (m ≤ n + 1)

theorem St.drewN {w : World} {B : Nat} {m n c : Int} {h : ByteArray} (hs : St w B m n c h) (k : Nat) : St (w.drewN k) B m n c h := by
  simpa [St] using hs

theorem add_world (B : Nat) (m n c : Int) (h : ByteArray) (c1 : Int) (s1 : ByteArray) (w : World) (o1 o2 : Obj) (nq : Nat) (hB : B < w.heap.size) (hst : St w B m n c h) :
    St ((((((w.setCell ⟨B, 1, none⟩ (.int .i64 (n + 1))).alloc o1).alloc o2).drewN nq).setCell ⟨B, 2, none⟩ (.int .i64 c1)).setCell ⟨B, 3, none⟩ (.string s1)) B m (n + 1) c1 s1 ∧
    Below B w ((((((w.setCell ⟨B, 1, none⟩ (.int .i64 (n + 1))).alloc o1).alloc o2).drewN nq).setCell ⟨B, 2, none⟩ (.int .i64 c1)).setCell ⟨B, 3, none⟩ (.string s1)) := by
  obtain ⟨h0, h1, h2, h3, f1, f2, f3⟩ := hst
  constructor
  · refine ⟨?_, ?_, ?_, ?_, ?_, ?_, ?_⟩ <;> go_simp
    · exact World.cell?_setCell_same _ _ _ (u := .int .i64 c) (by go_simp)
    · exact World.cell?_setCell_same _ _ _ (u := .string h) (by go_simp)
  · have e : (w.setCell ⟨B, 1, none⟩ (.int .i64 (n + 1))).heap.size = w.heap.size := by simp [World.setCell]
    have e1 := ((((Below.refl B w).setCell (p := ⟨B, 1, none⟩) (Nat.le_refl _) (.int .i64 (n + 1))).alloc (by rw [e]; omega) o1).alloc (by simp; omega) o2)
    exact ((below_drewN e1 nq).setCell (Nat.le_refl _) _).setCell (Nat.le_refl _) _

set_option maxHeartbeats 4000000 in
theorem add_any (B : Nat) (m n c : Int) (h : ByteArray) (c1 : Int) (s1 : ByteArray) (c2 : Int) (s2 : ByteArray) (w : World) (hB : B < w.heap.size) (hst : St w B m n c h) (hn0 : 0 ≤ n) (hn1 : n < 9223372036854775807) :
    Calls Try.prog 23 #[.pointer (some ⟨B, 0, none⟩), .agg #[.int .i64 c1, .string s1], .agg #[.int .i64 c2, .string s2]] w fun e w' =>
      e = .returned (.tuple #[.int .i64 (addV n c h c1 s1 c2 s2), .bool (addS m n c h c1 s1 c2 s2)]) ∧ St w' B m (n + 1) c1 s1 ∧ Below B w w' := by
  have hst' := hst
  obtain ⟨h0, h1, h2, h3, f1, f2, f3⟩ := hst
  have hx : (c1 == c2) = false ∨ ((c1 == c2) = true ∧ (s1.toList == s2.toList) = false) ∨ ((c1 == c2) = true ∧ (s1.toList == s2.toList) = true) := by
    cases (c1 == c2) <;> cases (s1.toList == s2.toList) <;> simp
  have hy : decide (1 < n + 1) = false ∨ (decide (1 < n + 1) = true ∧ (c1 == c) = false) ∨ (decide (1 < n + 1) = true ∧ (c1 == c) = true ∧ (s1.toList == h.toList) = false) ∨ (decide (1 < n + 1) = true ∧ (c1 == c) = true ∧ (s1.toList == h.toList) = true) := by
    cases decide (1 < n + 1) <;> cases (c1 == c) <;> cases (s1.toList == h.toList) <;> simp
  rcases hy with hd | ⟨hd, y1⟩ | ⟨hd, y1, y2⟩ | ⟨hd, y1, y2⟩
  · rcases hx with x1 | ⟨x1, x2⟩ | ⟨x1, x2⟩
    · cases hm : decide (m ≤ n + 1)
      all_goals
        go_enter Try.func23, Try.ntmps23
        go_wp2
        go_quiet (fail)
        go_wp2
        go_quiet (fail)
        go_wp2
        go_ret2
        go_light
        refine ⟨by simp [addV, addS, alikeB, *], (add_world B m n c h c1 s1 w _ _ _ hB hst').1.drewN _, below_drewN (add_world B m n c h c1 s1 w _ _ _ hB hst').2 _⟩
    · cases hm : decide (m ≤ n + 1)
      all_goals
        go_enter Try.func23, Try.ntmps23
        go_wp2
        go_quiet (fail)
        go_wp2
        go_quiet (fail)
        go_wp2
        go_ret2
        go_light
        refine ⟨by simp [addV, addS, alikeB, *], (add_world B m n c h c1 s1 w _ _ _ hB hst').1.drewN _, below_drewN (add_world B m n c h c1 s1 w _ _ _ hB hst').2 _⟩
    all_goals
      go_enter Try.func23, Try.ntmps23
      go_wp2
      go_quiet (fail)
      go_wp2
      go_ret2
      go_light
      refine ⟨by simp [addV, addS, alikeB, *], (add_world B m n c h c1 s1 w _ _ _ hB hst').1, (add_world B m n c h c1 s1 w _ _ _ hB hst').2⟩
  · rcases hx with x1 | ⟨x1, x2⟩ | ⟨x1, x2⟩
    · cases hm : decide (m ≤ n + 1)
      all_goals
        go_enter Try.func23, Try.ntmps23
        go_wp2
        go_quiet (fail)
        go_wp2
        go_quiet (fail)
        go_wp2
        go_ret2
        go_light
        refine ⟨by simp [addV, addS, alikeB, *], (add_world B m n c h c1 s1 w _ _ _ hB hst').1.drewN _, below_drewN (add_world B m n c h c1 s1 w _ _ _ hB hst').2 _⟩
    · cases hm : decide (m ≤ n + 1)
      all_goals
        go_enter Try.func23, Try.ntmps23
        go_wp2
        go_quiet (fail)
        go_wp2
        go_quiet (fail)
        go_wp2
        go_ret2
        go_light
        refine ⟨by simp [addV, addS, alikeB, *], (add_world B m n c h c1 s1 w _ _ _ hB hst').1.drewN _, below_drewN (add_world B m n c h c1 s1 w _ _ _ hB hst').2 _⟩
    all_goals
      go_enter Try.func23, Try.ntmps23
      go_wp2
      go_quiet (fail)
      go_wp2
      go_ret2
      go_light
      refine ⟨by simp [addV, addS, alikeB, *], (add_world B m n c h c1 s1 w _ _ _ hB hst').1, (add_world B m n c h c1 s1 w _ _ _ hB hst').2⟩
  · rcases hx with x1 | ⟨x1, x2⟩ | ⟨x1, x2⟩
    · cases hm : decide (m ≤ n + 1)
      all_goals
        go_enter Try.func23, Try.ntmps23
        go_wp2
        go_quiet (fail)
        go_wp2
        go_quiet (fail)
        go_wp2
        go_ret2
        go_light
        refine ⟨by simp [addV, addS, alikeB, *], (add_world B m n c h c1 s1 w _ _ _ hB hst').1.drewN _, below_drewN (add_world B m n c h c1 s1 w _ _ _ hB hst').2 _⟩
    · cases hm : decide (m ≤ n + 1)
      all_goals
        go_enter Try.func23, Try.ntmps23
        go_wp2
        go_quiet (fail)
        go_wp2
        go_quiet (fail)
        go_wp2
        go_ret2
        go_light
        refine ⟨by simp [addV, addS, alikeB, *], (add_world B m n c h c1 s1 w _ _ _ hB hst').1.drewN _, below_drewN (add_world B m n c h c1 s1 w _ _ _ hB hst').2 _⟩
    all_goals
      go_enter Try.func23, Try.ntmps23
      go_wp2
      go_quiet (fail)
      go_wp2
      go_ret2
      go_light
      refine ⟨by simp [addV, addS, alikeB, *], (add_world B m n c h c1 s1 w _ _ _ hB hst').1, (add_world B m n c h c1 s1 w _ _ _ hB hst').2⟩
  · rcases hx with x1 | ⟨x1, x2⟩ | ⟨x1, x2⟩
    all_goals
      go_enter Try.func23, Try.ntmps23
      go_wp2
      go_quiet (fail)
      go_wp2
      go_ret2
      go_light
      refine ⟨by simp [addV, addS, alikeB, *], (add_world B m n c h c1 s1 w _ _ _ hB hst').1, (add_world B m n c h c1 s1 w _ _ _ hB hst').2⟩
end Go.Proofs.Qxb6603109a
