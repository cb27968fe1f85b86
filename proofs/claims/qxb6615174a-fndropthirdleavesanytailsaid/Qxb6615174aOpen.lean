/-
  A SLICE OF LETTERS THAT CAME IN, OPENED: the word that it holds.
-/
import Derived.Test.Qxb6615174aWord
import Derived.ProofKit
import Derived.OpenShut
import Derived.Deep.Slices
import Derived.Lib.SmallJoins
import Derived.ChangeOld
namespace Go.Proofs.Qxb6615174a
open Go.ChangeShapes Go.WideShapes Go.ChangeAt Go.RowKit Go.Deep

theorem Try.cells33 : Try.prog.cellsOf 33 = 4 := by kernel_rfl
theorem Try.cells21 : Try.prog.cellsOf 21 = 1 := by kernel_rfl
theorem Try.cells4 : Try.prog.cellsOf 4 = 1 := by kernel_rfl

theorem letter_of {H : Type} {enc : TypeId × Value → H} {W : World} {n : Nat} {cs : List Value} {x : DataW H × List MemPlace}
    (h : DataW.trod enc Try.prog W 0 (fun _ => true) true n 33 cs = some x) : ∃ l : Lt, cs = lc l := by
  obtain ⟨y0, y1, y2, y3, m, _, hl, h0, h1, h2, h3⟩ := Joins.trod_struct4 Try.underlying33 h
  rw [Try.cells33] at hl
  match cs, hl with
  | [c0, c1, c2, c3], _ =>
    simp only [Try.cells21, Try.cells4] at h0 h1 h2 h3
    obtain ⟨a, e0, _, _⟩ := DataW.trod_int Try.underlying21 h0
    obtain ⟨b, e1, _, _⟩ := DataW.trod_int Try.underlying21 h1
    obtain ⟨c, e2, _⟩ := DataW.trod_bool Try.underlying4 h2
    obtain ⟨d, e3, _⟩ := DataW.trod_bool Try.underlying4 h3
    simp at e0 e1 e2 e3
    subst e0 e1 e2 e3
    exact ⟨⟨a, b, c, d⟩, rfl⟩

theorem open_letters {H : Type} {enc : TypeId × Value → H} {W : World} {a : Option Addr} {len cap : Nat} {d : DataW H} {p : List MemPlace}
    (h : DataW.Trod enc Try.prog W 0 (fun _ => true) true 22 (.slice a len cap) d p) :
    ∃ L : List Lt, L.length = len ∧ RdAt W a L ∧ (a = none → cap = 0) ∧ len ≤ cap ∧ cap ≤ maxLen := by
  obtain ⟨fuel, hf⟩ := h
  rcases open_slice Try.underlying22 hf with ⟨hcs, _⟩ | ⟨A, len', cap', m, n, D, Pl, hcs, _, hl, hm, hmm, _, hx⟩
  · simp [Value.cells] at hcs
    obtain ⟨rfl, rfl, rfl⟩ := hcs
    exact ⟨[], rfl, Or.inl rfl, fun _ => rfl, Nat.le_refl _, Nat.zero_le _⟩
  · simp [Value.cells] at hcs
    obtain ⟨rfl, rfl, rfl⟩ := hcs
    have each : ∀ i, i < len → ∃ l : Lt, ∀ j v, (lc l)[j]? = some v → W.cell? (A.add (i * 4 + j)) = some v := by
      intro i hi
      obtain ⟨cs', h1, h2⟩ := hx i (by rw [hmm]; simp; omega)
      obtain ⟨l, rfl⟩ := letter_of h2
      rw [Try.cells33] at h1
      obtain ⟨_, _, hcell⟩ := World.cells?_some h1
      refine ⟨l, fun j v hv => ?_⟩
      have := hcell j (List.getElem?_eq_some_iff.1 hv).1
      rw [add_add, hv] at this
      exact this
    have : Inhabited Lt := ⟨⟨0, 0, false, false⟩⟩
    obtain ⟨f, hfl⟩ := choose_lt each
    refine ⟨(List.range len).map f, by simp, ?_, (fun h => by cases h), hl, hm⟩
    rcases Nat.eq_zero_or_pos len with h0 | hpos
    · exact Or.inl (by rw [h0]; rfl)
    · obtain ⟨b, off, spot⟩ := A
      have hc := hfl 0 hpos 0 _ rfl
      have hspot : spot = none := by simpa [Addr.add] using World.cell?_spot hc
      subst hspot
      refine Or.inr ⟨b, off, rfl, fun i x hx j v hv => ?_⟩
      rw [List.getElem?_map] at hx
      obtain ⟨i', hi', rfl⟩ := Option.map_eq_some_iff.1 hx
      have hi : i < len := by
        have := (List.getElem?_eq_some_iff.1 hi').1
        simpa using this
      have e : i' = i := by
        rw [List.getElem?_eq_getElem (by simpa using hi)] at hi'
        simpa using hi'.symm
      subst e
      have := hfl i' hi j v hv
      rw [Addr.add_mid, ← Nat.add_assoc] at this
      exact this
end Go.Proofs.Qxb6615174a
