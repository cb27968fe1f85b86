/-
  THE SCENES THAT CAME IN, OPENED.
-/
import Derived.Test.Qxb6615139aData
import Derived.ProofKit
import Derived.OpenShut
import Derived.Deep.Slices
import Derived.Deep.Strs
import Derived.Lib.SmallJoins
import Derived.ChangeOld
namespace Go.Proofs.Qxb6615139a
open Go.ChangeShapes Go.WideShapes Go.ChangeAt Go.RowKit Go.Deep

theorem cells74 : Try.prog.cellsOf 74 = 3 := by kernel_rfl
theorem cells78 : Try.prog.cellsOf 78 = 3 := by kernel_rfl
theorem cells9 : Try.prog.cellsOf 9 = 1 := by kernel_rfl
theorem cells72 : Try.prog.cellsOf 72 = 1 := by kernel_rfl

theorem open_rows {T : Type} (t0 : T) {H : Type} {enc : TypeId × Value → H} {W : World} {t e : TypeId} {c : Nat} (f : T → List Value) (good : T → Prop) (ht : Try.prog.underlying t = some (.slice e)) (hc : Try.prog.cellsOf e = c) (hln : ∀ x, (f x).length = c) (hpos : ∀ x, ∃ v, (f x)[0]? = some v)
    (hex : ∀ n cs x, DataW.trod enc Try.prog W 0 (fun _ => true) true n e cs = some x → ∃ y : T, cs = f y ∧ good y) {fuel : Nat} {a : Option Addr} {len cap : Nat} {x : DataW H × List MemPlace}
    (h : DataW.trod enc Try.prog W 0 (fun _ => true) true fuel t [.slice a len cap] = some x) :
    ∃ L : List T, L.length = len ∧ len ≤ maxLen ∧ ∀ i y, L[i]? = some y → good y ∧ ∃ b off, a = some ⟨b, off, none⟩ ∧ b < W.heap.size ∧ W.rangeAt b (off + i * c) (f y) := by
  rcases open_slice ht h with ⟨hcs, _⟩ | ⟨A, len', cap', m, n, D, Pl, hcs, _, hl, hm, hmm, _, hx⟩
  · simp at hcs
    obtain ⟨rfl, rfl, rfl⟩ := hcs
    exact ⟨[], rfl, Nat.zero_le _, fun i y h => by simp at h⟩
  · simp at hcs
    obtain ⟨rfl, rfl, rfl⟩ := hcs
    have each : ∀ i, i < len → ∃ l : T, good l ∧ ∀ j v, (f l)[j]? = some v → W.cell? (A.add (i * c + j)) = some v := by
      intro i hi
      obtain ⟨cs', h1, h2⟩ := hx i (by rw [hmm]; simp; omega)
      obtain ⟨l, rfl, hg⟩ := hex _ _ _ h2
      rw [hc] at h1
      obtain ⟨_, _, hcell⟩ := World.cells?_some h1
      refine ⟨l, hg, fun j v hv => ?_⟩
      have := hcell j (by rw [← hln l]; exact (List.getElem?_eq_some_iff.1 hv).1)
      rw [add_add, hv] at this
      exact this
    have : Inhabited T := ⟨t0⟩
    obtain ⟨g, hfl⟩ := choose_lt each
    refine ⟨(List.range len).map g, by simp, Nat.le_trans hl hm, fun i y hy => ?_⟩
    rw [List.getElem?_map] at hy
    obtain ⟨i', hi', rfl⟩ := Option.map_eq_some_iff.1 hy
    have hi : i < len := by
      have := (List.getElem?_eq_some_iff.1 hi').1
      simpa using this
    have e : i' = i := by
      rw [List.getElem?_eq_getElem (by simpa using hi)] at hi'
      simpa using hi'.symm
    subst e
    obtain ⟨hg, hcell⟩ := hfl i' hi
    refine ⟨hg, ?_⟩
    obtain ⟨v0, hv0⟩ := hpos (g 0)
    obtain ⟨b, off, spot⟩ := A
    have h0 := (hfl 0 (by omega)).2 0 v0 hv0
    rw [Nat.zero_mul] at h0
    have hspot : spot = none := by simpa [Addr.add] using World.cell?_spot h0
    subst hspot
    refine ⟨b, off, rfl, ?_, fun j v hv => ?_⟩
    · have := lt_of_cell h0
      rw [Addr.add_mid] at this
      exact this
    · have := hcell j v hv
      rw [Addr.add_mid, ← Nat.add_assoc] at this
      exact this

def goodR (r : Rf) : Prop := r.id.size ≤ maxLen ∧ r.ty.size ≤ maxLen ∧ r.name.size ≤ maxLen

set_option maxRecDepth 100000 in
theorem ref_of {H : Type} {enc : TypeId × Value → H} {W : World} {n : Nat} {cs : List Value} {x : DataW H × List MemPlace}
    (h : DataW.trod enc Try.prog W 0 (fun _ => true) true n 78 cs = some x) : ∃ r : Rf, cs = rc r ∧ goodR r := by
  obtain ⟨y0, y1, y2, m, _, hl, h0, h1, h2⟩ := trod_struct3 Try.underlying78 h
  rw [cells78] at hl
  match cs, hl with
  | [c0, c1, c2], _ =>
    simp only [cells9] at h0 h1 h2
    obtain ⟨a, e0, _, g0⟩ := DataW.trod_string Try.underlying9 h0
    obtain ⟨b, e1, _, g1⟩ := DataW.trod_string Try.underlying9 h1
    obtain ⟨c, e2, _, g2⟩ := DataW.trod_string Try.underlying9 h2
    simp at e0 e1 e2
    subst e0 e1 e2
    exact ⟨⟨a, b, c⟩, rfl, g0, g1, g2⟩

def goodS (W : World) (p : Sc × (Option Addr × Nat)) : Prop := p.1.locId.size ≤ maxLen ∧ p.1.locName.size ≤ maxLen ∧ p.1.pres.length ≤ maxLen ∧ (∀ (j : Nat) (r : Rf), p.1.pres[j]? = some r → goodR r) ∧ RefsAt W p.2.1 p.1.pres

set_option maxRecDepth 100000 in
theorem scene_of {H : Type} {enc : TypeId × Value → H} {W : World} {n : Nat} {cs : List Value} {x : DataW H × List MemPlace}
    (h : DataW.trod enc Try.prog W 0 (fun _ => true) true n 74 cs = some x) : ∃ p : Sc × (Option Addr × Nat), cs = sc p.1 p.2 ∧ goodS W p := by
  obtain ⟨y0, y1, y2, m, _, hl, h0, h1, h2⟩ := trod_struct3 Try.underlying74 h
  rw [cells74] at hl
  match cs, hl with
  | [c0, c1, c2], _ =>
    simp only [cells9, cells72] at h0 h1 h2
    obtain ⟨a, e0, _, g0⟩ := DataW.trod_string Try.underlying9 h0
    obtain ⟨b, e1, _, g1⟩ := DataW.trod_string Try.underlying9 h1
    simp at e0 e1
    subst e0 e1
    have h2' : DataW.trod enc Try.prog W 0 (fun _ => true) true m 72 [c2] = some y2 := h2
    obtain ⟨A, len, cap, rfl⟩ : ∃ A len cap, c2 = Value.slice A len cap := by
      rcases open_slice Try.underlying72 h2' with ⟨hcs, _⟩ | ⟨A, len', cap', m, n, D, Pl, hcs, _⟩
      · simp at hcs; exact ⟨_, _, _, hcs⟩
      · simp at hcs; exact ⟨_, _, _, hcs⟩
    obtain ⟨L, hL, hlen, hR⟩ := open_rows (⟨⟨#[]⟩, ⟨#[]⟩, ⟨#[]⟩⟩ : Rf) rc goodR Try.underlying72 cells78 (fun r => rfl) (fun r => ⟨_, rfl⟩) (fun n cs x h => ref_of h) h2'
    subst hL
    exact ⟨(⟨a, b, L⟩, (A, cap)), rfl, g0, g1, hlen, fun j r hr => (hR j r hr).1, fun j r hr => (hR j r hr).2⟩

set_option maxRecDepth 100000 in
theorem open_scenes {H : Type} {enc : TypeId × Value → H} {W : World} {a : Option Addr} {len cap : Nat} {d : DataW H} {p : List MemPlace}
    (h : DataW.Trod enc Try.prog W 0 (fun _ => true) true 24 (.slice a len cap) d p) :
    ∃ (S : List Sc) (hd : Nat → Option Addr × Nat), S.length = len ∧ ScAt W a S hd ∧ S.length ≤ 9223372036854775807 ∧ Fits S := by
  obtain ⟨fuel, hf⟩ := h
  have hf' : DataW.trod enc Try.prog W 0 (fun _ => true) true fuel 24 [.slice a len cap] = some (d, p) := hf
  obtain ⟨L, hL, hlen, hR⟩ := open_rows ((⟨⟨#[]⟩, ⟨#[]⟩, []⟩, (none, 0)) : Sc × (Option Addr × Nat)) (fun p => sc p.1 p.2) (goodS W) Try.underlying24 cells74 (fun r => rfl) (fun r => ⟨_, rfl⟩) (fun n cs x h => scene_of h) hf'
  have hg : ∀ i s, (L.map fun p => p.1)[i]? = some s → ∃ q : Sc × (Option Addr × Nat), L[i]? = some q ∧ q.1 = s := fun i s hs => by
    rw [List.getElem?_map] at hs
    obtain ⟨q, hq, e⟩ := Option.map_eq_some_iff.1 hs
    exact ⟨q, hq, e⟩
  refine ⟨L.map fun p => p.1, fun i => ((L[i]?).map fun p => p.2).getD (none, 0), by simp [hL], fun i s hs => ?_, by simp [hL]; unfold maxLen at hlen; omega, fun i s hs => ?_⟩
  · obtain ⟨q, hq, rfl⟩ := hg i s hs
    obtain ⟨hgd, b, off, e, hb, hr⟩ := hR i q hq
    simp only [hq, Option.map_some, Option.getD_some]
    exact ⟨⟨b, off, e, hb, hr⟩, hgd.2.2.2.2⟩
  · obtain ⟨q, hq, rfl⟩ := hg i s hs
    obtain ⟨⟨g1, g2, g3, g4, -⟩, -⟩ := hR i q hq
    unfold goodR at g4
    unfold maxLen at *
    exact ⟨by omega, by omega, by omega, fun j r hr => by have := g4 j r hr; omega⟩
end Go.Proofs.Qxb6615139a
