/-
  WORDS IN MEMORY: a letter is four cells; a word is a row of letters. No walk here: facts on worlds alone.
-/
import Derived.WalkKit
import Derived.Deep.MidRow
import Derived.Deep.OwnRows
namespace Go.Proofs.Qxb6615174a
open Go.RowKit

structure Lt where
  base : Int
  vowel : Int
  shadda : Bool
  dagger : Bool

/-- A letter's four cells. -/
def lc (x : Lt) : List Value := [.int .i32 x.base, .int .i32 x.vowel, .bool x.shadda, .bool x.dagger]

theorem lc_length (x : Lt) : (lc x).length = 4 := rfl

theorem lc_one (x : Lt) : ∀ v ∈ lc x, v.oneCell' = true := by
  intro v hv
  simp only [lc, List.mem_cons, List.not_mem_nil, or_false] at hv
  rcases hv with rfl | rfl | rfl | rfl <;> rfl

/-- The word L lies in block b from offset off on. -/
def Wd (w : World) (b off : Nat) (L : List Lt) : Prop := ∀ i x, L[i]? = some x → w.rangeAt b (off + i * 4) (lc x)

theorem at4 {w : World} {b o : Nat} {x : Lt} (h : w.rangeAt b o (lc x)) :
    w.cell? ⟨b, o, none⟩ = some (.int .i32 x.base) ∧ w.cell? ⟨b, o + 1, none⟩ = some (.int .i32 x.vowel) ∧ w.cell? ⟨b, o + 2, none⟩ = some (.bool x.shadda) ∧ w.cell? ⟨b, o + 3, none⟩ = some (.bool x.dagger) :=
  ⟨h 0 _ rfl, h 1 _ rfl, h 2 _ rfl, h 3 _ rfl⟩

theorem lt_of_cell {w : World} {a : Addr} {v : Value} (h : w.cell? a = some v) : a.block < w.heap.size := by
  rcases Nat.lt_or_ge a.block w.heap.size with h' | h'
  · exact h'
  · simp [World.cell?, Array.getElem?_eq_none h'] at h

theorem rangeAt_below {B : Nat} {w w' : World} (hb : Below B w w') {b o : Nat} {cs : List Value} (h : w.rangeAt b o cs) (hlt : b < B) : w'.rangeAt b o cs :=
  fun j v hv => by rw [hb.cell (p := ⟨b, o + j, none⟩) hlt]; exact h j v hv

theorem Wd.below {B : Nat} {w w' : World} (hb : Below B w w') {b off : Nat} {L : List Lt} (h : Wd w b off L) (hlt : b < B) : Wd w' b off L :=
  fun i x hx => rangeAt_below hb (h i x hx) hlt

theorem there_below {B : Nat} {w w' : World} (hb : Below B w w') {b o n : Nat} (h : w.there b o n) (hlt : b < B) : w'.there b o n :=
  fun j hj => by rw [hb.cell (p := ⟨b, o + j, none⟩) hlt, hb.frozen (p := ⟨b, o + j, none⟩) hlt]; exact h j hj

/-- The four old values of a letter's place that may be written. -/
theorem there4 {w : World} {b o n k : Nat} (h : w.there b o (n * 4)) (hk : k < n) :
    ∃ v0 v1 v2 v3, w.cell? ⟨b, o + k * 4, none⟩ = some v0 ∧ w.cell? ⟨b, o + k * 4 + 1, none⟩ = some v1 ∧ w.cell? ⟨b, o + k * 4 + 2, none⟩ = some v2 ∧ w.cell? ⟨b, o + k * 4 + 3, none⟩ = some v3 ∧
      w.frozen? ⟨b, o + k * 4, none⟩ = false ∧ w.frozen? ⟨b, o + k * 4 + 1, none⟩ = false ∧ w.frozen? ⟨b, o + k * 4 + 2, none⟩ = false ∧ w.frozen? ⟨b, o + k * 4 + 3, none⟩ = false := by
  obtain ⟨v0, h0⟩ := Option.isSome_iff_exists.1 (h (k * 4) (by omega)).1
  obtain ⟨v1, h1⟩ := Option.isSome_iff_exists.1 (h (k * 4 + 1) (by omega)).1
  obtain ⟨v2, h2⟩ := Option.isSome_iff_exists.1 (h (k * 4 + 2) (by omega)).1
  obtain ⟨v3, h3⟩ := Option.isSome_iff_exists.1 (h (k * 4 + 3) (by omega)).1
  exact ⟨v0, v1, v2, v3, h0, h1, h2, h3, (h (k * 4) (by omega)).2, (h (k * 4 + 1) (by omega)).2, (h (k * 4 + 2) (by omega)).2, (h (k * 4 + 3) (by omega)).2⟩

/-- A letter laid at offset o of block b. -/
def put4 (w : World) (b o : Nat) (x : Lt) : World :=
  (((w.setCell ⟨b, o, none⟩ (.int .i32 x.base)).setCell ⟨b, o + 1, none⟩ (.int .i32 x.vowel)).setCell ⟨b, o + 2, none⟩ (.bool x.shadda)).setCell ⟨b, o + 3, none⟩ (.bool x.dagger)

theorem put4_eq (w : World) (b o : Nat) (x : Lt) : put4 w b o x = w.setCells b o (lc x) := rfl

theorem there_part {w : World} {b o n o' m : Nat} (h : w.there b o n) (h1 : o ≤ o') (h2 : o' + m ≤ o + n) : w.there b o' m := fun j hj => by
  have := h (o' - o + j) (by omega)
  rwa [show o + (o' - o + j) = o' + j by omega] at this

/-- One letter more: behind the store of letter k the first k + 1 letters lie there. -/
theorem Wd.step {w : World} {b off : Nat} {M : List Lt} {x : Lt} (h : Wd w b off M) (ht : w.there b (off + M.length * 4) 4) : Wd (put4 w b (off + M.length * 4) x) b off (M ++ [x]) := by
  intro i y hy
  rw [put4_eq]
  rcases Nat.lt_or_ge i M.length with hi | hi
  · rw [List.getElem?_append_left hi] at hy
    exact World.rangeAt_setCells_apart (h i y hy) _ _ _ (Or.inr (Or.inl (by rw [lc_length]; omega)))
  · rw [List.getElem?_append_right hi] at hy
    have e : i - M.length = 0 := by
      rcases Nat.eq_zero_or_pos (i - M.length) with h | h
      · exact h
      · rw [List.getElem?_eq_none (by simp; omega)] at hy; simp at hy
    rw [e] at hy
    simp at hy
    subst hy
    have e2 : i = M.length := by omega
    subst e2
    exact World.rangeAt_setCells_same _ _ _ _ (by rw [lc_length]; exact ht)

theorem there_put4 {w : World} {b' o' n : Nat} (h : w.there b' o' n) (b o : Nat) (x : Lt) : (put4 w b o x).there b' o' n := by
  rw [put4_eq]; exact World.there_setCells h b o _

theorem below_put4 {B : Nat} {a w : World} (h : Below B a w) {b : Nat} (hb : B ≤ b) (o : Nat) (x : Lt) : Below B a (put4 w b o x) := by
  unfold put4
  exact (((h.setCell (p := ⟨b, o, none⟩) hb _).setCell (p := ⟨b, o + 1, none⟩) hb _).setCell (p := ⟨b, o + 2, none⟩) hb _).setCell (p := ⟨b, o + 3, none⟩) hb _

theorem size_put4 (w : World) (b o : Nat) (x : Lt) : (put4 w b o x).heap.size = w.heap.size := by simp [put4, World.setCell]

/-- A word that may be read, behind a slice's address (nil too). -/
def RdAt (w : World) (a : Option Addr) (L : List Lt) : Prop := L = [] ∨ ∃ b off, a = some ⟨b, off, none⟩ ∧ Wd w b off L

/-- A word of our own making: it lies in a block between lo and hi and may be written. -/
def WordIn (w : World) (lo hi : Nat) (a : Option Addr) (c : Nat) (L : List Lt) : Prop :=
  (a = none ∧ c = 0 ∧ L = []) ∨ ∃ b off, a = some ⟨b, off, none⟩ ∧ lo ≤ b ∧ b < hi ∧ L.length ≤ c ∧ c ≤ 1048576 ∧ w.there b off (L.length * 4) ∧ Wd w b off L

theorem RdAt.below {B : Nat} {w w' : World} (hb : Below B w w') {a : Option Addr} {L : List Lt} (h : RdAt w a L) (hlt : w.heap.size ≤ B) : RdAt w' a L := by
  rcases h with h | ⟨b, off, rfl, h⟩
  · exact Or.inl h
  · exact Or.inr ⟨b, off, rfl, fun i x hx => rangeAt_below hb (h i x hx) (Nat.lt_of_lt_of_le (lt_of_cell (at4 (h i x hx)).1) hlt)⟩

theorem WordIn.below {B : Nat} {w w' : World} (hb : Below B w w') {lo hi : Nat} {a : Option Addr} {c : Nat} {L : List Lt} (h : WordIn w lo hi a c L) (hlt : hi ≤ B) : WordIn w' lo hi a c L := by
  rcases h with h | ⟨b, off, rfl, h1, h2, h3, h4, h5, h6⟩
  · exact Or.inl h
  · exact Or.inr ⟨b, off, rfl, h1, h2, h3, h4, there_below hb h5 (by omega), h6.below hb (by omega)⟩

theorem WordIn.widen {w : World} {lo hi lo' hi' : Nat} {a : Option Addr} {c : Nat} {L : List Lt} (h : WordIn w lo hi a c L) (h1 : lo' ≤ lo) (h2 : hi ≤ hi') : WordIn w lo' hi' a c L := by
  rcases h with h | ⟨b, off, rfl, g1, g2, h⟩
  · exact Or.inl h
  · exact Or.inr ⟨b, off, rfl, by omega, by omega, h⟩

theorem WordIn.rd {w : World} {lo hi : Nat} {a : Option Addr} {c : Nat} {L : List Lt} (h : WordIn w lo hi a c L) : RdAt w a L := by
  rcases h with ⟨_, _, h2⟩ | ⟨b, off, rfl, _, _, _, _, _, h⟩
  · exact Or.inl h2
  · exact Or.inr ⟨b, off, rfl, h⟩

/-- A row of n letters at block B that is being filled: M lies there already. -/
structure Fill (B : Nat) (w wr : World) (n : Nat) (M : List Lt) : Prop where
  below : Below B w wr
  size : B < wr.heap.size
  there : wr.there B 0 (n * 4)
  word : Wd wr B 0 M

theorem Wd.alloc {w : World} {b off : Nat} {L : List Lt} (h : Wd w b off L) (o : Obj) : Wd (w.alloc o) b off L := fun i x hx => World.rangeAt_alloc (h i x hx) o

theorem Fill.alloc {B : Nat} {w wr : World} {n : Nat} {M : List Lt} (h : Fill B w wr n M) (o : Obj) : Fill B w (wr.alloc o) n M :=
  ⟨h.below.alloc (Nat.le_of_lt h.size) o, by have := h.size; simp; omega, World.there_alloc h.there o, h.word.alloc o⟩

theorem Fill.step {B : Nat} {w wr : World} {n : Nat} {M : List Lt} (h : Fill B w wr n M) (x : Lt) (k : Nat) (hk : k = M.length) (hn : k < n) : Fill B w (put4 wr B (k * 4) x) n (M ++ [x]) := by
  subst hk
  refine ⟨below_put4 h.below (Nat.le_refl _) _ _, by rw [size_put4]; exact h.size, there_put4 h.there _ _ _, ?_⟩
  have := h.word.step (x := x) (there_part h.there (by omega) (by omega))
  rwa [Nat.zero_add] at this

theorem take_snoc {α : Type} {L : List α} {k : Nat} {x : α} (hx : L[k]? = some x) : L.take (k + 1) = L.take k ++ [x] := by
  rw [List.take_add_one, hx]; rfl

theorem RdAt.at {w : World} {a : Option Addr} {L : List Lt} (h : RdAt w a L) {i : Nat} {x : Lt} (hx : L[i]? = some x) : ∃ b off, a = some ⟨b, off, none⟩ ∧ b < w.heap.size ∧ w.rangeAt b (off + i * 4) (lc x) := by
  rcases h with rfl | ⟨b, off, rfl, h⟩
  · simp at hx
  · exact ⟨b, off, rfl, lt_of_cell (at4 (h i x hx)).1, h i x hx⟩

theorem Fill.wordIn {w wr : World} {n : Nat} {M : List Lt} (h : Fill w.heap.size w wr n M) (hn : n = M.length) (hm : n ≤ 1048576) : WordIn wr w.heap.size wr.heap.size (some ⟨w.heap.size, 0, none⟩) n M :=
  Or.inr ⟨_, _, rfl, Nat.le_refl _, h.size, by omega, hm, by rw [← hn]; exact h.there, h.word⟩

end Go.Proofs.Qxb6615174a
