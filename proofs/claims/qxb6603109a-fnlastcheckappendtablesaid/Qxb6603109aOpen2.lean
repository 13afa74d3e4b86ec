import Derived.Test.Qxb6603109aBase2
import Derived.Deep.Slices
import Derived.OpenShut
namespace Go.Proofs.Qxb6603109a
open Go.ChangeShapes Go.WideShapes Go.ChangeAt Go.RowKit Go.Deep

theorem cells9' : Try.prog.cellsOf 9 = 1 := by kernel_rfl

section
variable {H : Type} {enc : TypeId × Value → H} {w : World} {base : Nat} {spare : Nat → Bool} {held : Bool}

/-- one array of m strings, off its cells -/
theorem open_strs {t m : Nat} (ht : Try.prog.underlying t = some (.array m 9)) (hc : Try.prog.cellsOf t = m) {fuel : Nat} {cs : List Value} {x : DataW H × List MemPlace} (h : DataW.trod enc Try.prog w base spare held fuel t cs = some x) :
    ∃ S : Nat → ByteArray, ∀ j, j < m → cs[j]? = some (.string (S j)) ∧ (S j).size ≤ maxLen := by
  obtain ⟨xs, n, _, _, hl, hxl, hf⟩ := DataW.trod_array ht h
  rw [hc] at hl
  have : Inhabited ByteArray := ⟨ByteArray.empty⟩
  refine choose_lt (p := fun j (s : ByteArray) => cs[j]? = some (.string s) ∧ s.size ≤ maxLen) fun j hj => ?_
  have g := hf j hj
  rw [cells9', Nat.mul_one, List.getElem?_eq_getElem (by omega)] at g
  obtain ⟨s, hs, _, hsz⟩ := DataW.trod_string Try.underlying9 g
  refine ⟨s, ?_, hsz⟩
  have e : (List.take 1 (List.drop j cs))[0]? = some (.string s) := by rw [hs]; rfl
  rw [List.getElem?_take, List.getElem?_drop] at e
  simpa using e

theorem addr_of_cell' {a : Addr} {v : Value} (h : w.cell? a = some v) : a = ⟨a.block, a.off, none⟩ := by
  obtain ⟨b, off, spot⟩ := a
  have : spot = none := by simpa using World.cell?_spot h
  subst this; rfl

theorem open_rows {ts t m : Nat} (hts : Try.prog.underlying ts = some (.slice t)) (ht : Try.prog.underlying t = some (.array m 9)) (hc : Try.prog.cellsOf t = m) (hm0 : 0 < m)
    {fuel : Nat} {a : Option Addr} {len cap : Nat} {x : DataW H × List MemPlace} (h : DataW.trod enc Try.prog w base spare held fuel ts [.slice a len cap] = some x) :
    ∃ J, len ≤ maxLen ∧ (a = none → len = 0) ∧ RowM m w a len J ∧ FitM m len J := by
  rcases open_slice hts h with ⟨hcs, _⟩ | ⟨a', len', cap', mm, n, D, Pl, hcs, _, hl, hm, hmm, _, hx⟩
  · simp at hcs
    obtain ⟨rfl, rfl, rfl⟩ := hcs
    exact ⟨fun _ _ => ByteArray.empty, Nat.zero_le _, fun _ => rfl, .inl rfl, fun i j hi => absurd hi (Nat.not_lt_zero _)⟩
  · simp at hcs
    obtain ⟨rfl, rfl, rfl⟩ := hcs
    have hlm : len ≤ mm := by rw [hmm]; split <;> omega
    have : Inhabited (Nat → ByteArray) := ⟨fun _ => ByteArray.empty⟩
    obtain ⟨J, hJ⟩ := choose_lt (n := len) (p := fun i (S : Nat → ByteArray) => ∃ cs, w.cells? base (a'.add (i * m)) m = some cs ∧ ∀ j, j < m → cs[j]? = some (.string (S j)) ∧ (S j).size ≤ maxLen) (fun i hi => by
      obtain ⟨cs', h1, h2⟩ := hx i (by omega)
      rw [hc] at h1
      obtain ⟨S, hS⟩ := open_strs ht hc h2
      exact ⟨S, cs', h1, hS⟩)
    refine ⟨J, Nat.le_trans hl hm, fun h => (Option.some_ne_none _ h).elim, ?_, fun i j hi hj => ((hJ i hi).elim fun cs h => (h.2 j hj).2)⟩
    by_cases h0 : len = 0
    · exact .inl h0
    · obtain ⟨cs0, hc0, hs0⟩ := hJ 0 (by omega)
      have hcc := (World.cells?_some hc0).2.2 0 hm0
      rw [(hs0 0 hm0).1, Nat.zero_mul] at hcc
      have hadd : (a'.add 0).add 0 = a' := by simp [Addr.add]
      rw [hadd] at hcc
      have e := addr_of_cell' (w := w) hcc
      refine .inr ⟨a'.block, a'.off, by rw [← e], fun i j hi hj => ?_⟩
      obtain ⟨cs, hci, hsi⟩ := hJ i hi
      have hcj := (World.cells?_some hci).2.2 j hj
      rw [(hsi j hj).1, add_add, e, Addr.add_mid] at hcj
      rw [Nat.add_assoc]; exact hcj
end
end Go.Proofs.Qxb6603109a
