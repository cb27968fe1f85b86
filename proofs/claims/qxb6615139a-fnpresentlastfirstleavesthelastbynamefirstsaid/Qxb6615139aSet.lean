/-
  a map[int]bool as the set of its keys.
-/
import Derived.Test.Qxb6615139aZplf
import Derived.Maps.OwnSet
import Derived.Maps.Views
import Derived.WalkArith
namespace Go.Proofs.Qxb6615139a
open Go.RowKit Go.Maps

theorem und93 : Try.prog.underlying 93 = some (.map 3 4) := by kernel_rfl
theorem und3 : Try.prog.underlying 3 = some (.int .i64) := by kernel_rfl
theorem und4 : Try.prog.underlying 4 = some .bool := by kernel_rfl
theorem zero4 (w : World) : (zeroValue 4).run Try.prog w = .ok (.bool false) w := by kernel_rfl
theorem keyed3 : Keyed Try.prog 3 := int_keyed und3

/-- block b is a map whose keys are K, each with true -/
def SetAt (w : World) (b n : Nat) (K : List Nat) : Prop := ∃ D : DataW Unit, w.ownsMap Try.prog 3 (plainElem Try.prog 4) b n D ∧ (∀ i : Nat, i ≤ 1048576 → D.atKey (.int .i64 (i : Int)) (.lit (.bool false)) = .lit (.bool (K.contains i))) ∧
  (∀ i : Nat, i ≤ 1048576 → Maps.has D (.int .i64 (i : Int)) = K.contains i) ∧ Maps.size D = K.length

theorem key3 {i : Nat} (hi : i ≤ 1048576) : keyOf Try.prog 3 (.int .i64 (i : Int)) = some (.int .i64 (i : Int)) := keyOf_int_mk und3 (WalkArith.wf_i64 (by omega))

theorem set_made (w : World) : SetAt (w.alloc (.map #[] 0)) w.heap.size 0 [] :=
  ⟨.map [], World.ownsMap_made _ _ _ _, fun _ _ => rfl, fun _ _ => rfl, rfl⟩

theorem SetAt.kept {w w' : World} {b n : Nat} {K : List Nat} {row : Option Nat} (h : SetAt w b n K) (hg : w.grownBy w' row) (hne : some b ≠ row) : SetAt w' b n K := by
  obtain ⟨D, h1, h2⟩ := h
  exact ⟨D, h1.kept hg hne, h2⟩

theorem SetAt.lt {w : World} {b n : Nat} {K : List Nat} (h : SetAt w b n K) : b < w.heap.size := by
  obtain ⟨D, h1, -⟩ := h
  exact h1.lt

theorem SetAt.of_block {w w' : World} {b n : Nat} {K : List Nat} (h : SetAt w b n K) (e : w'.heap[b]? = w.heap[b]?) : SetAt w' b n K := by
  obtain ⟨D, ⟨es, clock, hb, h1⟩, h2⟩ := h
  exact ⟨D, ⟨es, clock, e.trans hb, h1⟩, h2⟩

theorem plainElem_bool_inv {H : Type} {v : Value} {x : Bool} {ps : List MemPlace} (h : plainElem (H := H) Try.prog 4 v = some (.lit (.bool x), ps)) : v = .bool x := by
  unfold plainElem at h
  rw [und4] at h
  cases v <;> simp at h
  rw [h.1]

theorem SetAt.look {w : World} {b n : Nat} {K : List Nat} (h : SetAt w b n K) {i : Nat} (hi : i ≤ 1048576) : (Instr.lookup 93 (.map (some b)) (.int .i64 (i : Int)) false).run Try.prog w = .ok (.bool (K.contains i)) w := by
  obtain ⟨D, h1, h2, -, -⟩ := h
  obtain ⟨v, ps, hrun, hv⟩ := h1.lookup keyed3 und93 (zero4 w) (plainElem_bool und4 false) (key3 hi)
  rw [h2 i hi] at hv
  rw [hrun, plainElem_bool_inv hv]

theorem SetAt.len {w : World} {b n : Nat} {K : List Nat} (h : SetAt w b n K) (ty : TypeId) : (Builtin.len_ #[93] ty #[.map (some b)]).run Try.prog w = .ok (.int .i64 (K.length : Int)) w := by
  obtain ⟨D, h1, -, -, h4⟩ := h
  rw [h1.len und93 ty, h4]

theorem SetAt.put {w : World} {b n : Nat} {K : List Nat} (h : SetAt w b n K) (hn : n ≤ 1048576) {i : Nat} (hi : i ≤ 1048576) (hnew : K.contains i = false) :
    ∃ w', (Instr.mapUpdate 93 (.map (some b)) (.int .i64 (i : Int)) (.bool true)).run Try.prog w = .ok () w' ∧ SetAt w' b (n + 1) (K ++ [i]) ∧ w.grownBy w' (some b) := by
  obtain ⟨D, h1, h2, h3, h4⟩ := h
  obtain ⟨w', hrun, h5, h6⟩ := h1.update keyed3 und93 (by unfold maxLen; omega) (key3 hi) (plainElem_bool und4 true)
  have hM : IsMap D := h1.isMap
  refine ⟨w', hrun, ⟨_, h5, fun j hj => ?_, fun j hj => ?_, ?_⟩, h6⟩
  · by_cases e : j = i
    · subst e
      rw [atKey_put_same hM (by trivial)]
      simp
    · rw [atKey_put_other (fun e' => e (by simp only [Lit.int.injEq] at e'; omega)), h2 j hj]
      simp [e]
  · by_cases e : j = i
    · subst e
      rw [has_put_same hM (by trivial)]
      simp
    · rw [has_put_other (fun e' => e (by simp only [Lit.int.injEq] at e'; omega)), h3 j hj]
      simp [e]
  · rw [size_put (h1.tidy keyed3), h3 i hi, hnew, h4]
    simp
end Go.Proofs.Qxb6615139a
