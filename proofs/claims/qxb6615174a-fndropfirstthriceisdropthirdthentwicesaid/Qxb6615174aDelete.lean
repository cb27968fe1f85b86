/-
  THE CONTRACT OF slices.Delete(s, 2, 3) AND OF dropThird: the third letter goes, in place.
-/
import Derived.Test.Qxb6615174aWord
import Derived.Deep.RegionLaw
namespace Go.Proofs.Qxb6615174a
open Go.RowKit

def flat (L : List Lt) : List Value := L.flatMap lc

theorem flat_nil : flat [] = [] := rfl
theorem flat_cons (x : Lt) (L : List Lt) : flat (x :: L) = lc x ++ flat L := rfl

theorem flat_length (L : List Lt) : (flat L).length = L.length * 4 := by
  induction L with
  | nil => rfl
  | cons x L ih => rw [flat_cons, List.length_append, ih, lc_length, List.length_cons]; omega

theorem flat_one (L : List Lt) : ∀ v ∈ flat L, v.oneCell' = true := by
  intro v hv
  obtain ⟨x, _, hx⟩ := List.mem_flatMap.1 hv
  exact lc_one x v hx

theorem flat_get (L : List Lt) : ∀ j, (flat L)[j]? = (L[j / 4]?).bind fun x => (lc x)[j % 4]? := by
  induction L with
  | nil => intro j; simp [flat_nil]
  | cons x L ih =>
    intro j
    rw [flat_cons]
    rcases Nat.lt_or_ge j 4 with hj | hj
    · rw [List.getElem?_append_left (by rw [lc_length]; exact hj), Nat.div_eq_of_lt hj, Nat.mod_eq_of_lt hj]; rfl
    · rw [List.getElem?_append_right (by rw [lc_length]; exact hj), lc_length, ih, show j / 4 = (j - 4) / 4 + 1 by omega, show (j - 4) % 4 = j % 4 by omega]
      rfl

theorem flat_at (L : List Lt) {i : Nat} {x : Lt} (hx : L[i]? = some x) {j : Nat} (hj : j < 4) : (flat L)[i * 4 + j]? = (lc x)[j]? := by
  rw [flat_get, show (i * 4 + j) / 4 = i by omega, show (i * 4 + j) % 4 = j by omega, hx]; rfl

theorem Wd.range {w : World} {b off : Nat} {L : List Lt} (h : Wd w b off L) : w.rangeAt b off (flat L) := by
  intro j v hv
  rw [flat_get] at hv
  obtain ⟨x, hx, hv⟩ := Option.bind_eq_some_iff.1 hv
  have := h (j / 4) x hx (j % 4) v hv
  rwa [show off + j / 4 * 4 + j % 4 = off + j by omega] at this

theorem Wd_of_range {w : World} {b off : Nat} {L : List Lt} (h : w.rangeAt b off (flat L)) : Wd w b off L := by
  intro i x hx j v hv
  have hj : j < 4 := by
    have := (List.getElem?_eq_some_iff.1 hv).1
    rwa [lc_length] at this
  have := h (i * 4 + j) v (by rw [flat_at L hx hj]; exact hv)
  rwa [← Nat.add_assoc] at this

/-- What is laid behind M. -/
theorem Wd.lay {w : World} {b off : Nat} {M : List Lt} (h : Wd w b off M) (N : List Lt) (ht : w.there b (off + M.length * 4) (N.length * 4)) : Wd (w.setCells b (off + M.length * 4) (flat N)) b off (M ++ N) := by
  intro i y hy
  rcases Nat.lt_or_ge i M.length with hi | hi
  · rw [List.getElem?_append_left hi] at hy
    exact World.rangeAt_setCells_apart (h i y hy) _ _ _ (Or.inr (Or.inl (by rw [lc_length]; omega)))
  · rw [List.getElem?_append_right hi] at hy
    have := Wd_of_range (World.rangeAt_setCells_same w b (off + M.length * 4) (flat N) (by rw [flat_length]; exact ht)) (i - M.length) y hy
    rwa [show off + M.length * 4 + (i - M.length) * 4 = off + i * 4 by omega] at this

theorem Wd.apart {w : World} {b off : Nat} {M : List Lt} (h : Wd w b off M) (o : Nat) (vs : List Value) (ho : off + M.length * 4 ≤ o) : Wd (w.setCells b o vs) b off M := fun i x hx =>
  World.rangeAt_setCells_apart (h i x hx) _ _ _ (Or.inr (Or.inl (by
    have := (List.getElem?_eq_some_iff.1 hx).1
    rw [lc_length]; omega)))

theorem size_setCells (b : Nat) : ∀ (vs : List Value) (o : Nat) (w : World), (w.setCells b o vs).heap.size = w.heap.size
  | [], _, _ => rfl
  | v :: r, o, w => by rw [World.setCells, size_setCells b r]; simp [World.setCell]

theorem below_setCells {B : Nat} {a : World} {b : Nat} (hb : B ≤ b) : ∀ (vs : List Value) (o : Nat) (w : World), Below B a w → Below B a (w.setCells b o vs)
  | [], _, _, h => h
  | v :: r, o, w, h => by rw [World.setCells]; exact below_setCells hb r _ _ (h.setCell (p := ⟨b, o, none⟩) hb v)

def z4 : List Value := [.int .i32 0, .int .i32 0, .bool false, .bool false]

theorem zc : (Builtin.zeroCells (Value.agg #[.int .i32 0, .int .i32 0, .bool false, .bool false]).cells 1).toList = z4 := by kernel_rfl

/-- 'clear' of one letter. -/
theorem run_clear_letter (W : World) (ty : TypeId) (b o c : Nat) (ht : W.there b o 4) :
    (Builtin.clear_ #[25] ty #[.slice (some ⟨b, o, none⟩) 1 c]).run Try.prog W = .ok (.tuple #[]) (W.setCells b o z4) := by
  have hst := run_storeCells_cells (P := Try.prog) b o z4 0 W (fun j hj => (ht j hj).1) (fun j hj => (ht j hj).2) (by
    intro v hv
    simp only [z4, List.mem_cons, List.not_mem_nil, or_false] at hv
    rcases hv with rfl | rfl | rfl | rfl <;> rfl)
  simp only [Nat.add_zero] at hst
  simp [Builtin.clear_, run_underlying Try.underlying25, zc, hst]

set_option maxHeartbeats 1000000 in
set_option maxRecDepth 100000 in
theorem delete_core (b off c : Nat) (x0 x1 x2 : Lt) (N : List Lt) (w : World) (hc : N.length + 3 ≤ c) (hm : c ≤ 1048576) (ht : w.there b off ((N.length + 3) * 4)) (hL : Wd w b off (x0 :: x1 :: x2 :: N)) :
    Calls Try.prog 18 #[.slice (some ⟨b, off, none⟩) (N.length + 3) c, .int .i64 2, .int .i64 3] w fun e w' =>
      e = .returned (.slice (some ⟨b, off, none⟩) (2 + N.length) c) ∧ w' = (w.drew.setCells b (off + 2 * 4) (flat N)).setCells b (off + (2 + N.length) * 4) z4 := by
  obtain ⟨i0, hi0, hzz⟩ := Option.map_eq_some_iff.1 Try.info34
  simp only [Prod.mk.injEq] at hzz
  obtain ⟨_, hz1, _⟩ := hzz
  have hrg := hL.range
  obtain ⟨A, hA, hsrc⟩ : ∃ A : Addr, (if c = 3 then some (⟨b, off, none⟩ : Addr) else some ⟨b, off + 12, none⟩) = some A ∧ Hid (∀ t u, (flat N)[t]? = some u → w.drew.cell? (A.add t) = some u) := by
    by_cases h : c = 3
    · refine ⟨⟨b, off, none⟩, by simp [h], fun t u hu => ?_⟩
      have h0 : N = [] := List.length_eq_zero_iff.1 (by omega)
      rw [h0, flat_nil] at hu
      simp at hu
    · refine ⟨⟨b, off + 12, none⟩, by simp [h], fun t u hu => ?_⟩
      rw [Addr.add_mid, show off + 12 + t = off + (12 + t) by omega]
      refine hrg (12 + t) u ?_
      rw [flat_cons, flat_cons, flat_cons, List.getElem?_append_right (by rw [lc_length]; omega), lc_length, List.getElem?_append_right (by rw [lc_length]; omega), lc_length, List.getElem?_append_right (by rw [lc_length]; omega), lc_length, show 12 + t - 4 - 4 - 4 = t by omega]
      exact hu
  have s1 : Hid ((flat N).length = N.length * 4) := flat_length N
  have s2 : Hid (∀ u ∈ flat N, u.oneCell' = true) := flat_one N
  have s3 : Hid (∀ t, t < (flat N).length → (w.drew.cell? ⟨b, off + 2 * 4 + t, none⟩).isSome = true ∧ w.drew.frozen? ⟨b, off + 2 * 4 + t, none⟩ = false) := by
    intro t ht'
    rw [flat_length] at ht'
    have := ht (2 * 4 + t) (by omega)
    rwa [← Nat.add_assoc] at this
  obtain ⟨W1, hW1⟩ : ∃ W1, W1 = w.drew.setCells b (off + 2 * 4) (flat N) := ⟨_, rfl⟩
  have ht1 : W1.there b (off + (2 + N.length) * 4) 4 := by
    rw [hW1]
    exact World.there_setCells (there_part (w := w.drew) ht (by omega) (by omega)) _ _ _
  have hcl : ∀ ty, (Builtin.clear_ #[25] ty #[.slice (some ⟨b, off + (2 + N.length) * 4, none⟩) (N.length + 3 - (2 + N.length)) (c - (2 + N.length))]).run Try.prog W1 = .ok (.tuple #[]) (W1.setCells b (off + (2 + N.length) * 4) z4) := fun ty => by
    rw [show N.length + 3 - (2 + N.length) = 1 by omega]; exact run_clear_letter W1 ty b _ _ ht1
  have hW : Hid (W1 = w.drew.setCells b (off + 2 * 4) (flat N)) := hW1
  clear hW1 ht1 ht hL hrg
  have h2c : (2 : Int) ≤ (c : Int) := by omega
  have h3n : (3 : Int) ≤ (N.length : Int) + 3 := by omega
  go_enter Try.func18, Try.ntmps18
  go_wp2_with fail
  go_region_law (refine step_append_room rfl (.tmp 22) (.tmp 25) 25 rfl 34 i0 4 Try.underlying25 hi0 hz1 b off 2 c (by simp [Act.eval, Act.put]) A N.length (c - 3) (flat N) (by simp [Act.eval, Act.put]) s1.out hsrc.out s2.out (by omega) s3.out ?_; rw [← hW.out])
  go_wp2
  go_ret
  exact ⟨rfl, by rw [hW.out]⟩

/-- slices.Delete(s, 2, 3) on a word of our own. -/
theorem delete_any (lo hi : Nat) (a : Option Addr) (c : Nat) (x0 x1 x2 : Lt) (N : List Lt) (w : World) (h : WordIn w lo hi a c (x0 :: x1 :: x2 :: N)) :
    Calls Try.prog 18 #[.slice a (N.length + 3) c, .int .i64 2, .int .i64 3] w fun e w' =>
      e = .returned (.slice a (2 + N.length) c) ∧ Below lo w w' ∧ w'.heap.size = w.heap.size ∧ WordIn w' lo hi a c (x0 :: x1 :: N) := by
  rcases h with ⟨_, _, h⟩ | ⟨b, off, rfl, h1, h2, h3, h4, h5, h6⟩
  · simp at h
  simp only [List.length_cons] at h3 h5
  refine (delete_core b off c x0 x1 x2 N w h3 h4 h5 h6).mono ?_
  rintro e w' ⟨rfl, rfl⟩
  have hM : Wd w.drew b off [x0, x1] := fun i x hx => by
    refine h6 i x ?_
    rcases i with _ | _ | i
    · simpa using hx
    · simpa using hx
    · simp at hx
  have t1 : w.drew.there b (off + [x0, x1].length * 4) (N.length * 4) := there_part (w := w.drew) (o := off) (n := (N.length + 1 + 1 + 1) * 4) h5 (by simp) (by simp; omega)
  have hl := hM.lay N t1
  have hl2 := hl.apart (off + (2 + N.length) * 4) z4 (by simp; omega)
  refine ⟨rfl, below_setCells h1 _ _ _ (below_setCells h1 _ _ _ (Below.refl _ _).drew), by rw [size_setCells, size_setCells]; rfl, Or.inr ⟨b, off, rfl, h1, h2, by simp; omega, h4, ?_, hl2⟩⟩
  exact World.there_setCells (World.there_setCells (there_part (w := w.drew) (o := off) (n := (N.length + 1 + 1 + 1) * 4) h5 (by omega) (by simp; omega)) _ _ _) _ _ _

theorem dropThird_any (lo hi : Nat) (a : Option Addr) (c : Nat) (x0 x1 x2 : Lt) (N : List Lt) (w : World) (h : WordIn w lo hi a c (x0 :: x1 :: x2 :: N)) :
    Calls Try.prog 17 #[.slice a (N.length + 3) c] w fun e w' =>
      e = .returned (.slice a (2 + N.length) c) ∧ Below lo w w' ∧ w'.heap.size = w.heap.size ∧ WordIn w' lo hi a c (x0 :: x1 :: N) := by
  have hc := delete_any lo hi a c x0 x1 x2 N w h
  clear h
  go_enter Try.func17, Try.ntmps17
  go_wp2_with (go_at_call 18; refine hc.mono ?_; rintro e w' ⟨rfl, h1, h2, h3⟩)
  go_ret
  exact ⟨rfl, h1, h2, h3⟩

theorem zzdropThird_any (lo hi : Nat) (a : Option Addr) (c : Nat) (x0 x1 x2 : Lt) (N : List Lt) (w : World) (h : WordIn w lo hi a c (x0 :: x1 :: x2 :: N)) :
    Calls Try.prog 13 #[.slice a (N.length + 3) c] w fun e w' =>
      e = .returned (.slice a (2 + N.length) c) ∧ Below lo w w' ∧ w'.heap.size = w.heap.size ∧ WordIn w' lo hi a c (x0 :: x1 :: N) := by
  have hc := dropThird_any lo hi a c x0 x1 x2 N w h
  clear h
  go_enter Try.func13, Try.ntmps13
  go_wp2_with (go_at_call 17; refine hc.mono ?_; rintro e w' ⟨rfl, h1, h2, h3⟩)
  go_ret
  exact ⟨rfl, h1, h2, h3⟩
end Go.Proofs.Qxb6615174a
