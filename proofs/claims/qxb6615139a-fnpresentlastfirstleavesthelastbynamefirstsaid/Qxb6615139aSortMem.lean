/-
  THE SORT's MEMORY: a row of pairs (place, item) in one block; all other blocks stand. The literal that reflectlite.Swapper hands back, as one step on such a row.
-/
import Derived.Test.Qxb6615139aRows
import Derived.Test.Qxb6615139aSortPlain
import Derived.WalkKit
import Derived.WalkSpells
import Derived.WalkLawsBesides
import Derived.Deep.MidRow
import Derived.Deep.OwnRows
import Derived.Lib.ReflectliteSwap
namespace Go.Proofs.Qxb6615139a
open Go.RowKit Plain

/-- From w to w': new blocks; of the old ones at most block blk has turned. -/
structure Kp (blk : Nat) (w w' : World) : Prop where
  os : w'.os = w.os
  tape : w'.tape = w.tape
  output : w'.output = w.output
  size : w.heap.size ≤ w'.heap.size
  block : ∀ k, k < w.heap.size → k ≠ blk → w'.heap[k]? = w.heap[k]?

theorem Kp.refl (blk : Nat) (w : World) : Kp blk w w := ⟨rfl, rfl, rfl, Nat.le_refl _, fun _ _ _ => rfl⟩
theorem Kp.trans {blk : Nat} {a b c : World} (h : Kp blk a b) (k : Kp blk b c) : Kp blk a c :=
  ⟨k.os.trans h.os, k.tape.trans h.tape, k.output.trans h.output, Nat.le_trans h.size k.size, fun i hi hne => (k.block i (Nat.lt_of_lt_of_le hi h.size) hne).trans (h.block i hi hne)⟩
theorem Kp.of_below {blk : Nat} {w w' : World} (h : Below w.heap.size w w') : Kp blk w w' := ⟨h.os, h.tape, h.output, h.size, fun k hk _ => h.block k hk⟩
theorem Kp.alloc {blk : Nat} {a w : World} (h : Kp blk a w) (o : Obj) : Kp blk a (w.alloc o) := h.trans (Kp.of_below ((Below.refl _ _).alloc (Nat.le_refl _) o))
theorem Kp.cell {blk : Nat} {w w' : World} (h : Kp blk w w') {p : Addr} (hp : p.block < w.heap.size) (hne : p.block ≠ blk) : w'.cell? p = w.cell? p := World.cell?_of_block (w := w) (h.block p.block hp hne)
theorem Kp.frozen {blk : Nat} {w w' : World} (h : Kp blk w w') {p : Addr} (hp : p.block < w.heap.size) (hne : p.block ≠ blk) : w'.frozen? p = w.frozen? p := World.frozen?_of_block (w := w) (h.block p.block hp hne)
/-- where blk itself is new, all that was old stands -/
theorem Kp.below {blk : Nat} {w w' : World} (h : Kp blk w w') {B : Nat} (hB : B ≤ blk) (hs : B ≤ w.heap.size) : Below B w w' := ⟨h.os, h.tape, h.output, h.size, fun k hk => h.block k (by omega) (by omega)⟩

theorem Kp.setCells {blk : Nat} {a w : World} (h : Kp blk a w) (o : Nat) (vs : List Value) : Kp blk a (w.setCells blk o vs) := by
  induction vs generalizing o w with
  | nil => exact h
  | cons v r ih =>
    rw [World.setCells]
    have hk : Kp blk w (w.setCell ⟨blk, o, none⟩ v) := ⟨rfl, rfl, rfl, by simp [World.setCell], fun k _ hne => Below.heap_setCell w ⟨blk, o, none⟩ v k hne⟩
    exact ih (h.trans hk) _

/-- A pair's two cells. -/
def pc (x : Nat × Nat) : List Value := [.int .i64 (x.1 : Int), .int .i64 (x.2 : Int)]
theorem pc_length (x : Nat × Nat) : (pc x).length = 2 := rfl
theorem pc_one (x : Nat × Nat) : ∀ v ∈ pc x, v.oneCell' = true := by
  intro v hv
  simp only [pc, List.mem_cons, List.not_mem_nil, or_false] at hv
  rcases hv with rfl | rfl <;> rfl

/-- The row of N pairs lies in block blk, from its head on, and may be written. -/
def Row (w : World) (blk N : Nat) (d : Nat → Nat × Nat) : Prop := w.there blk 0 (N * 2) ∧ ∀ k, k < N → w.rangeAt blk (k * 2) (pc (d k))

theorem Row.at {w : World} {blk N : Nat} {d : Nat → Nat × Nat} (h : Row w blk N d) {k : Nat} (hk : k < N) : w.cell? ⟨blk, k * 2, none⟩ = some (.int .i64 ((d k).1 : Int)) ∧ w.cell? ⟨blk, k * 2 + 1, none⟩ = some (.int .i64 ((d k).2 : Int)) :=
  ⟨h.2 k hk 0 _ rfl, h.2 k hk 1 _ rfl⟩

theorem Row.of_block {w w' : World} {blk N : Nat} {d : Nat → Nat × Nat} (h : Row w blk N d) (e : w'.heap[blk]? = w.heap[blk]?) : Row w' blk N d := by
  have hc : ∀ o, w'.cell? ⟨blk, o, none⟩ = w.cell? ⟨blk, o, none⟩ := fun o => World.cell?_of_block (w := w) e
  have hf : ∀ o, w'.frozen? ⟨blk, o, none⟩ = w.frozen? ⟨blk, o, none⟩ := fun o => World.frozen?_of_block (w := w) e
  exact ⟨fun j hj => by rw [hc, hf]; exact h.1 j hj, fun k hk j v hv => by rw [hc]; exact h.2 k hk j v hv⟩

theorem Row.below {w w' : World} {blk N : Nat} {d : Nat → Nat × Nat} (h : Row w blk N d) (hb : Below w.heap.size w w') (hlt : blk < w.heap.size) : Row w' blk N d := h.of_block (hb.block blk hlt)

theorem Row.swap {w : World} {blk N : Nat} {d : Nat → Nat × Nat} (h : Row w blk N d) {i j : Nat} (hi : i < N) (hj : j < N) : Row ((w.setCells blk (i * 2) (pc (d j))).setCells blk (j * 2) (pc (d i))) blk N (sw d i j) := by
  have ti : w.there blk (i * 2) (pc (d j)).length := fun t ht => by have := h.1 (i * 2 + t) (by rw [pc_length] at ht; omega); rwa [Nat.zero_add] at this
  have tj : w.there blk (j * 2) (pc (d i)).length := fun t ht => by have := h.1 (j * 2 + t) (by rw [pc_length] at ht; omega); rwa [Nat.zero_add] at this
  refine ⟨World.there_setCells (World.there_setCells h.1 _ _ _) _ _ _, fun k hk => ?_⟩
  by_cases ej : k = j
  · have e : sw d i j k = d i := by
      simp only [sw]
      by_cases e : k = i
      · rw [if_pos e]; rw [← ej, e]
      · rw [if_neg e, if_pos ej]
    rw [e, ej]
    exact World.rangeAt_setCells_same _ _ _ _ (World.there_setCells tj _ _ _)
  · by_cases ei : k = i
    · have e : sw d i j k = d j := by simp only [sw]; rw [if_pos ei]
      rw [e, ei]
      exact World.rangeAt_setCells_apart (World.rangeAt_setCells_same _ _ _ _ ti) _ _ _ (Or.inr (by rw [pc_length, pc_length]; omega))
    · have e : sw d i j k = d k := by simp only [sw]; rw [if_neg ei, if_neg ej]
      rw [e]
      exact World.rangeAt_setCells_apart (World.rangeAt_setCells_apart (h.2 k hk) _ _ _ (Or.inr (by rw [pc_length, pc_length]; omega))) _ _ _ (Or.inr (by rw [pc_length, pc_length]; omega))

theorem Try.info85 : (Try.prog.info? 85).map (·.size) = some 2 := by kernel_rfl
theorem agg85 (w : World) : (isAgg 85).run Try.prog w = .ok true w := by kernel_rfl

/-- What Swapper's literal is bound to. -/
def bound (h : Value) (blk N c : Nat) : Array Value := #[.slice (some ⟨blk, 0, none⟩) N c, h]

/-- data.Swap(i, j) -/
theorem run_swap (blk N c : Nat) (d : Nat → Nat × Nat) (w : World) (h : Row w blk N d) (i j : Nat) (hi : i < N) (hj : j < N) :
    (callFunc 43 (#[.int .i64 i, .int .i64 j] ++ bound (typeHandle Try.prog 85) blk N c)).run Try.prog w = .ok (.value (.tuple #[])) ((w.setCells blk (i * 2) (pc (d j))).setCells blk (j * 2) (pc (d i))) := by
  obtain ⟨ie, hie, hs⟩ := Option.map_eq_some_iff.1 Try.info85
  have fr : ∀ x, x < N → ∀ k, k < 2 → w.frozen? ⟨blk, 0 + x * 2 + k, none⟩ = false := fun x hx k hk => by
    have := (h.1 (x * 2 + k) (by omega)).2
    rwa [← Nat.add_assoc] at this
  have cl : ∀ x, x < N → ∀ k v, (pc (d x))[k]? = some v → w.cell? ⟨blk, 0 + x * 2 + k, none⟩ = some v := fun x hx k v hv => by
    rw [Nat.zero_add]; exact h.2 x hx k v hv
  have := Lib.run_swap_cells (P := Try.prog) false 85 ie hie agg85 blk 0 N c i j hi hj (pc (d i)) (pc (d j)) (by rw [hs]; rfl) (by rw [hs]; rfl) (pc_one _) (pc_one _) w
    (by rw [hs]; exact cl i hi) (by rw [hs]; exact cl j hj) (by rw [hs]; exact fr i hi) (by rw [hs]; exact fr j hj)
  rw [hs, Nat.zero_add, Nat.zero_add] at this
  rw [run_callFunc_extern Try.func43 (by kernel_rfl) (by kernel_rfl) (by kernel_rfl) (e := Extern.ReflectliteSwapper.swap false) (by kernel_rfl)]
  rw [show (#[Value.int .i64 (i : Int), Value.int .i64 (j : Int)] ++ bound (typeHandle Try.prog 85) blk N c) = #[.int .i64 i, .int .i64 j, .slice (some ⟨blk, 0, none⟩) N c, typeHandle Try.prog 85] from rfl, this]
  rfl

/-- What the sort asks of 'swap'. -/
def SwapOk (sb : Array Value) (blk N : Nat) : Prop := ∀ (d : Nat → Nat × Nat) (w : World), Row w blk N d → ∀ i j : Nat, i < N → j < N →
  (callFunc 43 (#[.int .i64 i, .int .i64 j] ++ sb)).run Try.prog w = .ok (.value (.tuple #[])) ((w.setCells blk (i * 2) (pc (d j))).setCells blk (j * 2) (pc (d i)))

/-- What the sort asks of 'less', the world at the sort's call being W0: wherever the row holds d and all other old blocks stand, it answers 'lt' and lays at most new blocks. -/
def LessOk (lb : Array Value) (W0 : World) (blk N : Nat) (ok : Nat × Nat → Prop) (lt : Nat × Nat → Nat × Nat → Bool) : Prop := ∀ (d : Nat → Nat × Nat) (w : World), Kp blk W0 w → Row w blk N d → (∀ k, k < N → ok (d k)) → ∀ i j : Nat, i < N → j < N →
  Calls Try.prog 30 (#[.int .i64 i, .int .i64 j] ++ lb) w fun e w' => e = .returned (.bool (lt (d i) (d j))) ∧ Below w.heap.size w w'

/-- The state of the sort. -/
structure St (W0 : World) (blk N : Nat) (ok : Nat × Nat → Prop) (d : Nat → Nat × Nat) (w : World) : Prop where
  kp : Kp blk W0 w
  row : Row w blk N d
  ok : ∀ k, k < N → ok (d k)
  lt : blk < W0.heap.size

theorem St.below {W0 : World} {blk N : Nat} {ok : Nat × Nat → Prop} {d : Nat → Nat × Nat} {w w' : World} (h : St W0 blk N ok d w) (hb : Below w.heap.size w w') : St W0 blk N ok d w' :=
  ⟨h.kp.trans (Kp.of_below hb), h.row.below hb (Nat.lt_of_lt_of_le h.lt h.kp.size), h.ok, h.lt⟩

theorem St.alloc {W0 : World} {blk N : Nat} {ok : Nat × Nat → Prop} {d : Nat → Nat × Nat} {w : World} (h : St W0 blk N ok d w) (o : Obj) : St W0 blk N ok d (w.alloc o) := h.below ((Below.refl _ _).alloc (Nat.le_refl _) o)

theorem St.swap {W0 : World} {blk N : Nat} {ok : Nat × Nat → Prop} {d : Nat → Nat × Nat} {w : World} (h : St W0 blk N ok d w) {i j : Nat} (hi : i < N) (hj : j < N) :
    St W0 blk N ok (sw d i j) ((w.setCells blk (i * 2) (pc (d j))).setCells blk (j * 2) (pc (d i))) :=
  ⟨(h.kp.setCells _ _).setCells _ _, h.row.swap hi hj, (permN_sw N d i j hi hj).all h.ok, h.lt⟩

/-- What a sort function leaves: the row turned from d to d'. -/
structure Did (W0 : World) (blk N : Nat) (ok : Nat × Nat → Prop) (d d' : Nat → Nat × Nat) (w w' : World) : Prop where
  st : St W0 blk N ok d' w'
  kp : Kp blk w w'
  perm : PermN N d d'

theorem Did.refl {W0 : World} {blk N : Nat} {ok : Nat × Nat → Prop} {d : Nat → Nat × Nat} {w : World} (h : St W0 blk N ok d w) : Did W0 blk N ok d d w w := ⟨h, Kp.refl _ _, PermN.refl _ _⟩
theorem Did.trans {W0 : World} {blk N : Nat} {ok : Nat × Nat → Prop} {d d' d'' : Nat → Nat × Nat} {w w' w'' : World} (h : Did W0 blk N ok d d' w w') (k : Did W0 blk N ok d' d'' w' w'') : Did W0 blk N ok d d'' w w'' := ⟨k.st, h.kp.trans k.kp, h.perm.trans k.perm⟩
theorem Did.below {W0 : World} {blk N : Nat} {ok : Nat × Nat → Prop} {d d' : Nat → Nat × Nat} {w w' w'' : World} (h : Did W0 blk N ok d d' w w') (hb : Below w'.heap.size w' w'') : Did W0 blk N ok d d' w w'' := ⟨h.st.below hb, h.kp.trans (Kp.of_below hb), h.perm⟩
theorem Did.swap {W0 : World} {blk N : Nat} {ok : Nat × Nat → Prop} {d d' : Nat → Nat × Nat} {w w' : World} (h : Did W0 blk N ok d d' w w') {i j : Nat} (hi : i < N) (hj : j < N) :
    Did W0 blk N ok d (sw d' i j) w ((w'.setCells blk (i * 2) (pc (d' j))).setCells blk (j * 2) (pc (d' i))) :=
  ⟨h.st.swap hi hj, (h.kp.setCells _ _).setCells _ _, h.perm.trans (permN_sw N d' i j hi hj)⟩

end Go.Proofs.Qxb6615139a
