import Derived.Test.Qxb6603109aNest
namespace Go.Proofs.Qxb6603109a
open Go.ChangeShapes Go.WideShapes Go.ChangeAt Go.RowKit Go.MapKept

def put (L : ByteArray → ByteArray → Option ByteArray) (d n r : ByteArray) : ByteArray → ByteArray → Option ByteArray := fun d' n' => if d = d' ∧ n = n' then some r else L d' n'

theorem look_put (U : Nat → Nat → ByteArray) (k : Nat) : look U (k + 1) = put (look U k) (U k 0) (U k 1) (U k 2) := by
  funext d n; rfl

theorem But.below {b B : Nat} {w w' : World} (h : But b w w') (hb : B ≤ b) : Below B w w' :=
  ⟨h.1, h.2.1, h.2.2.1, Nat.le_of_eq h.2.2.2.1.symm, fun k hk => h.2.2.2.2 k (by omega)⟩

theorem put_other {L : ByteArray → ByteArray → Option ByteArray} {d n r d' : ByteArray} (h : d' ≠ d) : put L d n r d' = L d' := by
  funext n'; unfold put; rw [if_neg (fun e => h e.1.symm)]

theorem put_same (L : ByteArray → ByteArray → Option ByteArray) (d n r : ByteArray) : (fun n' => (put L d n r d n').map runV) = fun n' => if n' = n then some (runV r) else (L d n').map runV := by
  funext n'
  unfold put
  by_cases h : n' = n
  · rw [if_pos ⟨rfl, h.symm⟩, if_pos h]; rfl
  · rw [if_neg (fun e => h e.2.symm), if_neg h]

theorem MS.step {w : World} {M : Nat} {L : ByteArray → ByteArray → Option ByteArray} (h : MS w M L) (d n r : ByteArray) :
    (∃ b, (Instr.lookup 62 (.map (some M)) (.string d) true).run Try.prog w = .ok (.tuple #[.map (some b), .bool true]) w ∧
      ∃ w6, (Instr.mapUpdate 63 (.map (some b)) (.string n) (runV r)).run Try.prog w.drew = .ok () w6 ∧ MS w6 M (put L d n r) ∧ Below M w w6) ∨
    ((Instr.lookup 62 (.map (some M)) (.string d) true).run Try.prog w = .ok (.tuple #[.map none, .bool false]) w ∧
      ∃ w5, (Instr.mapUpdate 62 (.map (some M)) (.string d) (.map (some w.heap.size))).run Try.prog (w.alloc (.map #[] 0)) = .ok () w5 ∧ Below M w w5 ∧
        ∃ w6, (Instr.mapUpdate 63 (.map (some w.heap.size)) (.string n) (runV r)).run Try.prog w5.drew = .ok () w6 ∧ MS w6 M (put L d n r) ∧ Below M w w6) := by
  obtain ⟨g, h1, h2, h3, h4⟩ := h
  have hl := h1.look (P := Try.prog) (t := 62) Try.underlying62 Try.underlying9 zero63 d
  cases hg : g d with
  | some b =>
    left
    rw [hg] at hl
    refine ⟨b, hl, ?_⟩
    obtain ⟨hMb, hm⟩ := h2 d b hg
    have hm' : MapAt w.drew b (fun n => (L d n).map runV) := hm
    obtain ⟨w6, hrun, hm6, hbut⟩ := hm'.store (P := Try.prog) (t := 63) Try.underlying63 Try.underlying9 n (runV r)
    refine ⟨w6, hrun, ⟨g, h1.of_block (hbut.2.2.2.2 M (by omega)), fun d' b' hg' => ?_, h3, fun d' hg' n' => ?_⟩, (Below.refl _ w).drew.trans (hbut.below (by omega))⟩
    · obtain ⟨a, c⟩ := h2 d' b' hg'
      refine ⟨a, ?_⟩
      by_cases hd : d' = d
      · subst hd
        have hbb : b' = b := by rw [hg] at hg'; exact (Option.some.inj hg').symm
        subst hbb
        rw [put_same]; exact hm6
      · rw [put_other hd]
        have hbb : b' ≠ b := fun e => hd (h3 d' d b (e ▸ hg') hg)
        exact c.of_block (hbut.2.2.2.2 b' hbb)
    · have hd : d' ≠ d := fun e => by rw [e, hg] at hg'; cases hg'
      rw [put_other hd]; exact h4 d' hg' n'
  | none =>
    right
    rw [hg] at hl
    refine ⟨hl, ?_⟩
    have hlt := h1.lt
    have ha : Below w.heap.size w (w.alloc (.map #[] 0)) := (Below.refl _ _).alloc (Nat.le_refl _) _
    have h1' : MapAt (w.alloc (.map #[] 0)) M (fun d => (g d).map fun b => .map (some b)) := h1.of_block (ha.block _ hlt)
    obtain ⟨w5, hrun5, hm5, hbut5⟩ := h1'.store (P := Try.prog) (t := 62) Try.underlying62 Try.underlying9 d (.map (some w.heap.size))
    refine ⟨w5, hrun5, (ha.mono (Nat.le_of_lt hlt)).trans (hbut5.below (Nat.le_refl _)), ?_⟩
    have hin : MapAt w5.drew w.heap.size (fun _ => none) := (MapAt.made w).of_block (hbut5.2.2.2.2 _ (by omega))
    obtain ⟨w6, hrun6, hm6, hbut6⟩ := hin.store (P := Try.prog) (t := 63) Try.underlying63 Try.underlying9 n (runV r)
    have hold : ∀ k, k < w.heap.size → k ≠ M → w6.heap[k]? = w.heap[k]? := fun k hk hkM =>
      ((hbut6.2.2.2.2 k (by omega)).trans (hbut5.2.2.2.2 k hkM)).trans (ha.block k hk)
    refine ⟨w6, hrun6, ⟨fun d' => if d' = d then some w.heap.size else g d', ?_, ?_, ?_, ?_⟩, ?_⟩
    · have : (fun d' => (if d' = d then some w.heap.size else g d').map fun b => Value.map (some b)) = fun s' => if s' = d then some (.map (some w.heap.size)) else (g s').map fun b => .map (some b) := by
        funext d'; by_cases e : d' = d <;> simp [e]
      rw [this]
      exact hm5.of_block (hbut6.2.2.2.2 M (by omega))
    · intro d' b' hg'
      by_cases hd : d' = d
      · simp only [if_pos hd] at hg'
        have hbb : b' = w.heap.size := (Option.some.inj hg').symm
        subst hbb hd
        refine ⟨hlt, ?_⟩
        rw [put_same]
        have : (fun n' => if n' = n then some (runV r) else (L d' n').map runV) = fun n' => if n' = n then some (runV r) else none := by
          funext n'; rw [h4 d' hg n']; rfl
        rw [this]; exact hm6
      · simp only [if_neg hd] at hg'
        obtain ⟨a, c⟩ := h2 d' b' hg'
        refine ⟨a, ?_⟩
        rw [put_other hd]
        exact c.of_block (hold b' c.lt (by omega))
    · intro d1 d2 b' hg1 hg2
      have old : ∀ x, g x = some b' → b' < w.heap.size := fun x hx => (h2 x b' hx).2.lt
      by_cases e1 : d1 = d <;> by_cases e2 : d2 = d
      · rw [e1, e2]
      · simp only [if_pos e1] at hg1; simp only [if_neg e2] at hg2
        have := old d2 hg2; have := Option.some.inj hg1; omega
      · simp only [if_neg e1] at hg1; simp only [if_pos e2] at hg2
        have := old d1 hg1; have := Option.some.inj hg2; omega
      · simp only [if_neg e1] at hg1; simp only [if_neg e2] at hg2
        exact h3 d1 d2 b' hg1 hg2
    · intro d' hg' n'
      by_cases hd : d' = d
      · simp only [if_pos hd] at hg'; cases hg'
      · simp only [if_neg hd] at hg'
        rw [put_other hd]; exact h4 d' hg' n'
    · exact (((ha.mono (Nat.le_of_lt hlt)).trans (hbut5.below (Nat.le_refl _))).drew).trans (hbut6.below (Nat.le_of_lt hlt))
end Go.Proofs.Qxb6603109a
