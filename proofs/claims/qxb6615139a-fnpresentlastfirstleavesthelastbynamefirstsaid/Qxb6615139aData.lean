/-
  SCENES IN MEMORY: a reference is three strings; a scene is two strings and a slice of references; a row of scenes. The same layout serves what came in and what the program builds of it.
-/
import Derived.Test.Qxb6615139aRows
import Derived.WalkKit
import Derived.WalkSpells
import Derived.WalkLawsBesides
import Derived.Deep.MidRow
import Derived.Deep.OwnRows
import Derived.Deep.QuietTactic
import Derived.BigQuiet
import Derived.Lib.SliceRun
namespace Go.Proofs.Qxb6615139a
open Go.RowKit

structure Rf where
  id : ByteArray
  ty : ByteArray
  name : ByteArray

structure Sc where
  locId : ByteArray
  locName : ByteArray
  pres : List Rf

/-- a reference's three cells -/
def rc (r : Rf) : List Value := [.string r.id, .string r.ty, .string r.name]
/-- a scene's three cells; h: where its references lie, and the capacity there -/
def sc (s : Sc) (h : Option Addr × Nat) : List Value := [.string s.locId, .string s.locName, .slice h.1 s.pres.length h.2]

theorem rc_length (r : Rf) : (rc r).length = 3 := rfl
theorem sc_length (s : Sc) (h : Option Addr × Nat) : (sc s h).length = 3 := rfl

theorem at3r {w : World} {b o : Nat} {r : Rf} (h : w.rangeAt b o (rc r)) :
    w.cell? ⟨b, o, none⟩ = some (.string r.id) ∧ w.cell? ⟨b, o + 1, none⟩ = some (.string r.ty) ∧ w.cell? ⟨b, o + 2, none⟩ = some (.string r.name) := ⟨h 0 _ rfl, h 1 _ rfl, h 2 _ rfl⟩
theorem at3s {w : World} {b o : Nat} {s : Sc} {hd : Option Addr × Nat} (h : w.rangeAt b o (sc s hd)) :
    w.cell? ⟨b, o, none⟩ = some (.string s.locId) ∧ w.cell? ⟨b, o + 1, none⟩ = some (.string s.locName) ∧ w.cell? ⟨b, o + 2, none⟩ = some (.slice hd.1 s.pres.length hd.2) := ⟨h 0 _ rfl, h 1 _ rfl, h 2 _ rfl⟩

theorem lt_of_cell {w : World} {a : Addr} {v : Value} (h : w.cell? a = some v) : a.block < w.heap.size := by
  rcases Nat.lt_or_ge a.block w.heap.size with h' | h'
  · exact h'
  · simp [World.cell?, Array.getElem?_eq_none h'] at h

theorem rangeAt_below {B : Nat} {w w' : World} (hb : Below B w w') {b o : Nat} {cs : List Value} (h : w.rangeAt b o cs) (hlt : b < B) : w'.rangeAt b o cs :=
  fun j v hv => by rw [hb.cell (p := ⟨b, o + j, none⟩) hlt]; exact h j v hv
theorem there_below {B : Nat} {w w' : World} (hb : Below B w w') {b o n : Nat} (h : w.there b o n) (hlt : b < B) : w'.there b o n :=
  fun j hj => by rw [hb.cell (p := ⟨b, o + j, none⟩) hlt, hb.frozen (p := ⟨b, o + j, none⟩) hlt]; exact h j hj

/-- The references R lie behind the address a. -/
def RefsAt (w : World) (a : Option Addr) (R : List Rf) : Prop := ∀ j r, R[j]? = some r → ∃ b off, a = some ⟨b, off, none⟩ ∧ b < w.heap.size ∧ w.rangeAt b (off + j * 3) (rc r)

/-- The scenes S lie behind the address a, scene i's references behind hd i. -/
def ScAt (w : World) (a : Option Addr) (S : List Sc) (hd : Nat → Option Addr × Nat) : Prop :=
  ∀ i s, S[i]? = some s → (∃ b off, a = some ⟨b, off, none⟩ ∧ b < w.heap.size ∧ w.rangeAt b (off + i * 3) (sc s (hd i))) ∧ RefsAt w (hd i).1 s.pres

theorem RefsAt.below {B : Nat} {w w' : World} {a : Option Addr} {R : List Rf} (h : RefsAt w a R) (hb : Below B w w') (hlt : w.heap.size ≤ B) : RefsAt w' a R := fun j r hr => by
  obtain ⟨b, off, e, h1, h2⟩ := h j r hr
  exact ⟨b, off, e, Nat.lt_of_lt_of_le h1 hb.size, rangeAt_below hb h2 (by omega)⟩

theorem ScAt.below {B : Nat} {w w' : World} {a : Option Addr} {S : List Sc} {hd : Nat → Option Addr × Nat} (h : ScAt w a S hd) (hb : Below B w w') (hlt : w.heap.size ≤ B) : ScAt w' a S hd := fun i s hs => by
  obtain ⟨⟨b, off, e, h1, h2⟩, h3⟩ := h i s hs
  exact ⟨⟨b, off, e, Nat.lt_of_lt_of_le h1 hb.size, rangeAt_below hb h2 (by omega)⟩, h3.below hb hlt⟩

/-- every length is one that Go's int holds -/
def Fits (S : List Sc) : Prop := ∀ (i : Nat) (s : Sc), S[i]? = some s → s.locId.size ≤ 9223372036854775807 ∧ s.locName.size ≤ 9223372036854775807 ∧ s.pres.length ≤ 9223372036854775807 ∧
  ∀ (j : Nat) (r : Rf), s.pres[j]? = some r → r.id.size ≤ 9223372036854775807 ∧ r.ty.size ≤ 9223372036854775807 ∧ r.name.size ≤ 9223372036854775807

/-- how many references in all -/
def tot (S : List Sc) : Nat := (S.map fun s => s.pres.length).sum

theorem tot_take {S : List Sc} {k : Nat} {s : Sc} (h : S[k]? = some s) : tot (S.take (k + 1)) = tot (S.take k) + s.pres.length := by
  rw [List.take_add_one, h]
  simp [tot]

theorem tot_take_le (S : List Sc) (k : Nat) : tot (S.take k) ≤ tot S := by
  have : tot S = tot (S.take k) + tot (S.drop k) := by
    unfold tot
    rw [← List.sum_append, ← List.map_append, List.take_append_drop]
  omega

end Go.Proofs.Qxb6615139a
