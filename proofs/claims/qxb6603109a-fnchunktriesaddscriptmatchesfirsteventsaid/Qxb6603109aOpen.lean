import Derived.Test.Qxb6603109aBase
import Derived.Deep.Slices
import Derived.OpenShut
namespace Go.Proofs.Qxb6603109a
open Go.ChangeShapes Go.WideShapes Go.ChangeAt Go.RowKit Go.Deep

theorem cells2 : Try.prog.cellsOf 2 = 1 := by kernel_rfl
theorem cells9 : Try.prog.cellsOf 9 = 1 := by kernel_rfl

section
variable {H : Type} {enc : TypeId × Value → H} {w : World} {base : Nat} {spare : Nat → Bool} {held : Bool}

/-- one try, off its four cells -/
theorem open_try {fuel : Nat} {cs : List Value} {x : DataW H × List MemPlace} (h : DataW.trod enc Try.prog w base spare held fuel 28 cs = some x) :
    ∃ t : T4, cs = [.int .i64 t.sc, .string t.sh, .int .i64 t.tc, .string t.th] ∧ t.sh.size ≤ maxLen ∧ t.th.size ≤ maxLen := by
  obtain ⟨xs, n, _, _, hl, hxl, hf⟩ := DataW.trod_struct Try.underlying28 h
  rw [cells28] at hl
  match cs, hl, xs, hxl with
  | [v0, v1, v2, v3], _, [y0, y1, y2, y3], _ =>
    have g0 : DataW.trod enc Try.prog w base spare held n 2 (List.take (Try.prog.cellsOf 2) (List.drop 0 [v0, v1, v2, v3])) = some y0 := hf 0 _ rfl
    have g1 : DataW.trod enc Try.prog w base spare held n 9 (List.take (Try.prog.cellsOf 9) (List.drop 1 [v0, v1, v2, v3])) = some y1 := hf 1 _ rfl
    have g2 : DataW.trod enc Try.prog w base spare held n 2 (List.take (Try.prog.cellsOf 2) (List.drop 2 [v0, v1, v2, v3])) = some y2 := hf 2 _ rfl
    have g3 : DataW.trod enc Try.prog w base spare held n 9 (List.take (Try.prog.cellsOf 9) (List.drop 3 [v0, v1, v2, v3])) = some y3 := hf 3 _ rfl
    rw [cells2] at g0 g2
    rw [cells9] at g1 g3
    obtain ⟨a, ha, _, _⟩ := DataW.trod_int Try.underlying2 g0
    obtain ⟨b, hb, _, hb'⟩ := DataW.trod_string Try.underlying9 g1
    obtain ⟨c, hc, _, _⟩ := DataW.trod_int Try.underlying2 g2
    obtain ⟨d, hd, _, hd'⟩ := DataW.trod_string Try.underlying9 g3
    simp at ha hb hc hd
    subst ha hb hc hd
    exact ⟨⟨a, b, c, d⟩, rfl, hb', hd'⟩

theorem addr_of_cell {a : Addr} {v : Value} (h : w.cell? a = some v) : a = ⟨a.block, a.off, none⟩ := by
  obtain ⟨b, off, spot⟩ := a
  have : spot = none := by simpa using World.cell?_spot h
  subst this; rfl

theorem open_tries {fuel : Nat} {a : Option Addr} {len cap : Nat} {x : DataW H × List MemPlace} (h : DataW.trod enc Try.prog w base spare held fuel 22 [.slice a len cap] = some x) :
    ∃ z, len ≤ maxLen ∧ (a = none → len = 0) ∧ Row4 w a len z ∧ Fit4 len z := by
  rcases open_slice Try.underlying22 h with ⟨hcs, _⟩ | ⟨a', len', cap', m, n, D, Pl, hcs, _, hl, hm, hmm, _, hx⟩
  · simp at hcs
    obtain ⟨rfl, rfl, rfl⟩ := hcs
    exact ⟨fun _ => ⟨0, ByteArray.empty, 0, ByteArray.empty⟩, Nat.zero_le _, fun _ => rfl, .inl rfl, fun i hi => absurd hi (Nat.not_lt_zero _)⟩
  · simp at hcs
    obtain ⟨rfl, rfl, rfl⟩ := hcs
    have hlm : len ≤ m := by rw [hmm]; split <;> omega
    have : Inhabited T4 := ⟨⟨0, ByteArray.empty, 0, ByteArray.empty⟩⟩
    obtain ⟨z, hz⟩ := choose_lt (n := len) (p := fun i (t : T4) => w.cells? base (a'.add (i * 4)) 4 = some [.int .i64 t.sc, .string t.sh, .int .i64 t.tc, .string t.th] ∧ t.sh.size ≤ maxLen ∧ t.th.size ≤ maxLen) (fun i hi => by
      obtain ⟨cs', h1, h2⟩ := hx i (by omega)
      rw [cells28] at h1
      obtain ⟨t, rfl, ht⟩ := open_try h2
      exact ⟨t, h1, ht⟩)
    refine ⟨z, Nat.le_trans hl hm, fun h => (Option.some_ne_none _ h).elim, ?_, fun i hi => (hz i hi).2⟩
    by_cases h0 : len = 0
    · exact .inl h0
    · have hc0 := (World.cells?_some (hz 0 (by omega)).1).2.2 0 (by omega)
      have ha : a'.add (0 * 4) = a' := by simp [Addr.add]
      rw [ha] at hc0
      have hadd : a'.add 0 = a' := by simp [Addr.add]
      rw [hadd] at hc0
      have e := addr_of_cell (w := w) hc0
      refine .inr ⟨a'.block, a'.off, by rw [← e], fun i hi => ?_⟩
      have hc := (World.cells?_some (hz i hi).1).2.2
      have p : ∀ j, (a'.add (i * 4)).add j = ⟨a'.block, a'.off + i * 4 + j, none⟩ := fun j => by
        rw [add_add, e, Addr.add_mid]; simp [Nat.add_assoc]
      have c0 := hc 0 (by omega)
      have c1 := hc 1 (by omega)
      have c2 := hc 2 (by omega)
      have c3 := hc 3 (by omega)
      rw [p] at c0 c1 c2 c3
      exact ⟨c0, c1, c2, c3⟩
end
end Go.Proofs.Qxb6603109a
