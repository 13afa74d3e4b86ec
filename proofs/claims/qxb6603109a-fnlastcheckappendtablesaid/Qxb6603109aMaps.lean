import Derived.Test.Qxb6603109aBase
import Derived.Maps.OwnSet
namespace Go.Proofs.Qxb6603109a
open Go.ChangeShapes Go.WideShapes Go.ChangeAt Go.RowKit Go.MapKept

/-- what a list of entries holds at a string -/
def fnd : List MapEntry → ByteArray → Option Value
  | [], _ => none
  | e :: es, s => match e.key with
    | .string t => if s = t then some e.val else fnd es s
    | _ => none

theorem key_string {e : MapEntry} (h : IsKey .string e.key) : ∃ t, e.key = .string t := by
  cases hk : e.key <;> simp_all [IsKey]

theorem findNow_fnd (s : ByteArray) : ∀ (l : List MapEntry) (i : Nat), (∀ x ∈ l, IsKey .string x.key) →
    ∃ r, Instr.findNow .string (.string s) l i = some r ∧ r.map (·.2) = fnd l s
  | [], _, _ => ⟨none, rfl, rfl⟩
  | e :: es, i, h => by
    obtain ⟨t, ht⟩ := key_string (h e (.head _))
    obtain ⟨r, hr1, hr2⟩ := findNow_fnd s es (i + 1) (fun x hx => h x (.tail _ hx))
    by_cases hs : s = t
    · have : (s == t) = true := (bytes_beq s t).2 hs
      exact ⟨some (i, e.val), by simp [Instr.findNow, Instr.sameNow, ht, this], by simp [fnd, ht, hs]⟩
    · have : (s == t) = false := by
        cases hb : (s == t)
        · rfl
        · exact absurd ((bytes_beq s t).1 hb) hs
      exact ⟨r, by simp [Instr.findNow, Instr.sameNow, ht, this, hr1], by simp [fnd, ht, hs, hr2]⟩

theorem fnd_push (s : ByteArray) (v : Value) (bn : Nat) (s' : ByteArray) : ∀ (l : List MapEntry), (∀ x ∈ l, IsKey .string x.key) → fnd l s = none →
    fnd (l ++ [{ key := .string s, val := v, born := bn }]) s' = if s' = s then some v else fnd l s'
  | [], _, _ => by simp [fnd]
  | e :: es, h, hn => by
    obtain ⟨t, ht⟩ := key_string (h e (.head _))
    simp only [fnd, ht] at hn
    have hst : s ≠ t := by intro e; rw [if_pos e] at hn; cases hn
    rw [if_neg hst] at hn
    have ih := fnd_push s v bn s' es (fun x hx => h x (.tail _ hx)) hn
    simp only [List.cons_append, fnd, ht]
    by_cases h1 : s' = t
    · rw [if_pos h1, if_pos h1, if_neg (by intro e; exact hst (e.symm.trans h1))]
    · rw [if_neg h1, if_neg h1]
      exact ih

theorem fnd_modify (s : ByteArray) (v : Value) (s' : ByteArray) : ∀ (l : List MapEntry) (i j : Nat) (old : Value), (∀ x ∈ l, IsKey .string x.key) → Instr.findNow .string (.string s) l i = some (some (i + j, old)) →
    fnd (l.modify j fun e => { e with key := .string s, val := v }) s' = if s' = s then some v else fnd l s'
  | [], i, j, old, _, hf => by simp [Instr.findNow] at hf
  | e :: es, i, j, old, h, hf => by
    obtain ⟨t, ht⟩ := key_string (h e (.head _))
    by_cases hs : s = t
    · have : (s == t) = true := (bytes_beq s t).2 hs
      simp [Instr.findNow, Instr.sameNow, ht, this] at hf
      obtain ⟨rfl, _⟩ := hf
      simp only [List.modify_zero_cons, fnd, ht]
      by_cases h1 : s' = s
      · rw [if_pos h1, if_pos h1]
      · rw [if_neg h1, if_neg h1, if_neg (fun e => h1 (e.trans hs.symm))]
    · have : (s == t) = false := by
        cases hb : (s == t)
        · rfl
        · exact absurd ((bytes_beq s t).1 hb) hs
      simp only [Instr.findNow, Instr.sameNow, ht, this] at hf
      rcases findNow_spec (d := .string) (k := .string s) (by simp [IsKey]) es (i + 1) (fun x hx => h x (.tail _ hx)) with ⟨g, _⟩ | ⟨j', e', g, _⟩
      · rw [g] at hf; cases hf
      · have hf' := hf
        rw [g] at hf
        simp only [Option.some.injEq, Prod.mk.injEq] at hf
        obtain ⟨j0, rfl⟩ : ∃ j0, j = j0 + 1 := ⟨j', by omega⟩
        have ih := fnd_modify s v s' es (i + 1) j0 old (fun x hx => h x (.tail _ hx)) (by rw [hf']; congr 3; omega)
        simp only [List.modify_succ_cons, fnd, ht]
        by_cases h1 : s' = t
        · rw [if_pos h1, if_pos h1, if_neg (fun e => hs (e.symm.trans h1))]
        · rw [if_neg h1, if_neg h1]
          exact ih

/-- block b of w is a map keyed by strings that holds f -/
def MapAt (w : World) (b : Nat) (f : ByteArray → Option Value) : Prop :=
  ∃ es clock, w.heap[b]? = some (.map es clock) ∧ (∀ x ∈ es.toList, IsKey .string x.key) ∧ ∀ s, fnd es.toList s = f s

theorem MapAt.of_block {w w' : World} {b : Nat} {f : ByteArray → Option Value} (h : MapAt w b f) (hb : w'.heap[b]? = w.heap[b]?) : MapAt w' b f := by
  obtain ⟨es, c, h1, h2⟩ := h
  exact ⟨es, c, hb.trans h1, h2⟩

theorem MapAt.lt {w : World} {b : Nat} {f : ByteArray → Option Value} (h : MapAt w b f) : b < w.heap.size := by
  obtain ⟨es, c, h1, _⟩ := h
  exact (Array.getElem?_eq_some_iff.1 h1).1

theorem MapAt.made (w : World) : MapAt (w.alloc (.map #[] 0)) w.heap.size (fun _ => none) :=
  ⟨#[], 0, (heap_alloc w _).1, by simp, fun _ => rfl⟩

theorem MapAt.look {P : Program} {w : World} {b : Nat} {f : ByteArray → Option Value} {t k e : TypeId} {z : Value} (h : MapAt w b f) (ht : P.underlying t = some (.map k e)) (hk : P.underlying k = some .string)
    (hz : ∀ w, (zeroValue e).run P w = .ok z w) (s : ByteArray) : (Instr.lookup t (.map (some b)) (.string s) true).run P w = .ok (.tuple #[(f s).getD z, .bool (f s).isSome]) w := by
  obtain ⟨es, c, h1, h2, h3⟩ := h
  obtain ⟨r, hr1, hr2⟩ := findNow_fnd s es.toList 0 h2
  rw [← h3 s, ← hr2]
  cases r with
  | none => simp [Instr.lookup, run_underlying ht, Go.MapKept.run_getObj_map h1, Go.MapKept.run_checkKey hk (k := .string s) (by simp [IsKey]), Go.MapKept.run_findKey hk hr1, hz, Result.andThen]
  | some p => simp [Instr.lookup, run_underlying ht, Go.MapKept.run_getObj_map h1, Go.MapKept.run_checkKey hk (k := .string s) (by simp [IsKey]), Go.MapKept.run_findKey hk hr1, Result.andThen]

theorem MapAt.look1 {P : Program} {w : World} {b : Nat} {f : ByteArray → Option Value} {t k e : TypeId} {z : Value} (h : MapAt w b f) (ht : P.underlying t = some (.map k e)) (hk : P.underlying k = some .string)
    (hz : ∀ w, (zeroValue e).run P w = .ok z w) (s : ByteArray) : (Instr.lookup t (.map (some b)) (.string s) false).run P w = .ok ((f s).getD z) w := by
  obtain ⟨es, c, h1, h2, h3⟩ := h
  obtain ⟨r, hr1, hr2⟩ := findNow_fnd s es.toList 0 h2
  rw [← h3 s, ← hr2]
  cases r with
  | none => simp [Instr.lookup, run_underlying ht, Go.MapKept.run_getObj_map h1, Go.MapKept.run_checkKey hk (k := .string s) (by simp [IsKey]), Go.MapKept.run_findKey hk hr1, hz, Result.andThen]
  | some p => simp [Instr.lookup, run_underlying ht, Go.MapKept.run_getObj_map h1, Go.MapKept.run_checkKey hk (k := .string s) (by simp [IsKey]), Go.MapKept.run_findKey hk hr1, Result.andThen]

theorem look_none {P : Program} {w : World} {t k e : TypeId} {z : Value} (ht : P.underlying t = some (.map k e)) (hk : P.underlying k = some .string)
    (hz : ∀ w, (zeroValue e).run P w = .ok z w) (s : ByteArray) : (Instr.lookup t (.map none) (.string s) true).run P w = .ok (.tuple #[z, .bool false]) w := by
  have hr1 : Instr.findNow .string (.string s) [] 0 = some none := rfl
  simp [Instr.lookup, run_underlying ht, Go.MapKept.run_checkKey hk (k := .string s) (by simp [IsKey]), Go.MapKept.run_findKey hk hr1, hz, Result.andThen]

/-- w' is w but for block b -/
def But (b : Nat) (w w' : World) : Prop := w'.os = w.os ∧ w'.tape = w.tape ∧ w'.output = w.output ∧ w'.heap.size = w.heap.size ∧ ∀ r, r ≠ b → w'.heap[r]? = w.heap[r]?

theorem MapAt.store {P : Program} {w : World} {b : Nat} {f : ByteArray → Option Value} {t k e : TypeId} (h : MapAt w b f) (ht : P.underlying t = some (.map k e)) (hk : P.underlying k = some .string)
    (s : ByteArray) (v : Value) : ∃ w', (Instr.mapUpdate t (.map (some b)) (.string s) v).run P w = .ok () w' ∧ MapAt w' b (fun s' => if s' = s then some v else f s') ∧ But b w w' := by
  obtain ⟨es, c, h1, h2, h3⟩ := h
  have hik : IsKey .string (.string s) := by simp [IsKey]
  obtain ⟨r, hr1, hr2⟩ := findNow_fnd s es.toList 0 h2
  cases r with
  | none =>
    refine ⟨{ w with heap := w.heap.setIfInBounds b (.map (es.push { key := .string s, val := v, born := c }) (c + 1)) }, by simp [Instr.mapUpdate, run_underlying ht, Go.MapKept.run_getObj_map h1, Go.MapKept.run_checkKey hk hik, Go.MapKept.run_findKey hk hr1, Go.MapKept.run_setObj_map _ h1, Result.andThen], ⟨_, _, (heap_set h1).1, ?_, fun s' => ?_⟩, rfl, rfl, rfl, by simp, fun r hr => (heap_set h1).2 r hr⟩
    · intro x hx
      simp at hx
      rcases hx with hx | rfl
      · exact h2 x (by simpa using hx)
      · exact hik
    · rw [Array.toList_push, fnd_push s v c s' es.toList h2 (by rw [← hr2]; rfl), h3]
  | some p =>
    obtain ⟨i, old⟩ := p
    rcases findNow_spec hik es.toList 0 h2 with ⟨g, _⟩ | ⟨j, e0, g1, g2, g3⟩
    · rw [g] at hr1; cases hr1
    · have hij : i = j ∧ old = e0.val := by
        rw [g1] at hr1
        simp only [Option.some.injEq, Prod.mk.injEq, Nat.zero_add] at hr1
        exact ⟨hr1.1.symm, hr1.2.symm⟩
      obtain ⟨rfl, rfl⟩ := hij
      have g2' : es[i]? = some e0 := by simpa using g2
      refine ⟨{ w with heap := w.heap.setIfInBounds b (.map (es.modify i fun e => { e with key := .string s, val := v }) c) }, by simp [Instr.mapUpdate, run_underlying ht, Go.MapKept.run_getObj_map h1, Go.MapKept.run_checkKey hk hik, Go.MapKept.run_findKey hk hr1, g2', g3, run_keyThatStays hik, Go.MapKept.run_setObj_map _ h1, Result.andThen], ⟨_, _, (heap_set h1).1, ?_, fun s' => ?_⟩, rfl, rfl, rfl, by simp, fun r hr => (heap_set h1).2 r hr⟩
      · exact isKey_modify h2 i _ (fun e he => by rw [g2'] at he; cases he; exact g3.symm)
      · rw [Array.toList_modify, fnd_modify s v s' es.toList 0 i _ h2 (by rw [Nat.zero_add]; exact hr1), h3]
end Go.Proofs.Qxb6603109a
