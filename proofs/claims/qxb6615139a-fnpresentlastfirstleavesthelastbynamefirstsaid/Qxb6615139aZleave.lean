/-
  ZZLeave.
-/
import Derived.Test.Qxb6615139aLeave
namespace Go.Proofs.Qxb6615139a
open Go.RowKit Go.Maps Plain

/-- k places are paired in the row Nb -/
structure Paired (Nb N : Nat) (d : Nat → Nat × Nat) (W wr : World) (k : Nat) : Prop where
  kp : Kp Nb W wr
  lt : Nb < W.heap.size
  row : wr.there Nb 0 (N * 2)
  got : ∀ i, i < k → wr.rangeAt Nb (i * 2) (pc (d i))

theorem Paired.put {Nb N : Nat} {d : Nat → Nat × Nat} {W wr : World} {k : Nat} (h : Paired Nb N d W wr k) (hk : k < N) : Paired Nb N d W (wr.setCells Nb (k * 2) (pc (d k))) (k + 1) := by
  have hkp : Kp Nb wr (wr.setCells Nb (k * 2) (pc (d k))) := (Kp.refl _ _).setCells _ _
  refine ⟨h.kp.trans hkp, h.lt, World.there_setCells h.row _ _ _, fun i hi => ?_⟩
  by_cases e : i = k
  · subst e
    refine World.rangeAt_setCells_same _ _ _ _ fun t ht => ?_
    have ht2 : t < 2 := ht
    have := h.row (i * 2 + t) (by omega)
    rwa [Nat.zero_add] at this
  · exact World.rangeAt_setCells_apart (h.got i (by omega)) _ _ _ (.inr (by show i * 2 + 2 ≤ k * 2 ∨ k * 2 + 2 ≤ i * 2; omega))

theorem Paired.later {Nb N : Nat} {d : Nat → Nat × Nat} {W wr w' : World} {k : Nat} (h : Paired Nb N d W wr k) (hb : Below wr.heap.size wr w') : Paired Nb N d W w' k := by
  have h1 := h.lt
  have h2 := h.kp.size
  exact ⟨h.kp.trans (Kp.of_below hb), h.lt, there_below hb h.row (by omega), fun i hi => rangeAt_below hb (h.got i hi) (by omega)⟩

theorem there2 {w : World} {b n i : Nat} (h : w.there b 0 (n * 2)) (hi : i < n) :
    (∃ x, w.cell? ⟨b, i * 2, none⟩ = some x) ∧ (∃ x, w.cell? ⟨b, i * 2 + 1, none⟩ = some x) ∧ w.frozen? ⟨b, i * 2, none⟩ = false ∧ w.frozen? ⟨b, i * 2 + 1, none⟩ = false := by
  have h0 := h (i * 2) (by omega)
  have h1 := h (i * 2 + 1) (by omega)
  rw [Nat.zero_add] at h0 h1
  exact ⟨Option.isSome_iff_exists.1 h0.1, Option.isSome_iff_exists.1 h1.1, h0.2, h1.2⟩

/-- what ZZLeave answers -/
def Held (e0 : ByteArray) (bf br : Nat) (S : List Sc) (d : Nat → Nat × Nat) (n : Nat) (w : World) (e : Ending) (w' : World) : Prop := ∃ bs' hd' O, e = .returned (.agg (heldv e0 bf br (.slice (some ⟨bs', 0, none⟩) S.length S.length) O).toArray) ∧ Below w.heap.size w w' ∧ (n = 0 → O = none) ∧
  ScAt w' (some ⟨bs', 0, none⟩) (cutS d n S) hd' ∧ (0 < n → ∃ ob, O = some ⟨ob, 0, none⟩ ∧ w'.cell? ⟨ob, 0, none⟩ = some (.int .i64 0) ∧ w'.cell? ⟨ob, 1, none⟩ = some (.int .i64 0) ∧ w'.cell? ⟨ob, 2, none⟩ = some (.int .i64 (n : Int)))

def zero9 : Array Value := #[.string ⟨#[]⟩, .string ⟨#[]⟩, .string ⟨#[]⟩, .map none, .slice none 0 0, .slice none 0 0, .slice none 0 0, .pointer none, .bool false]


set_option maxHeartbeats 4000000 in
set_option maxRecDepth 100000 in
theorem zzLeave_any (e0 : ByteArray) (bf br bs g1 g2 : Nat) (S : List Sc) (hd : Nat → Option Addr × Nat) (d : Nat → Nat × Nat) (n : Nat) (w : World) (h : ScAt w (some ⟨bs, 0, none⟩) S hd)
    (h1 : IntsAt w g1 (tot S) (fun k => (d k).1)) (h2 : IntsAt w g2 (tot S) (fun k => (d k).2)) (hO : Order S d) (hnt : n ≤ tot S) (hS : S.length ≤ 1048576) (ht : tot S ≤ 1048576) :
    Calls Try.prog 11 #[.agg (ctx e0 bf br bs S.length).toArray, .agg #[.int .i64 0, .int .i64 0, .int .i64 0], .slice none 0 0, .slice (some ⟨g1, 0, none⟩) (tot S) (tot S), .slice (some ⟨g2, 0, none⟩) (tot S) (tot S), .int .i64 n, .bool false] w (Held e0 bf br S d n w) := by
  have H : Hid (ScAt w (some ⟨bs, 0, none⟩) S hd) := h
  have HO : Hid (Order S d) := hO
  have H1 : Hid (IntsAt w g1 (tot S) (fun k => (d k).1)) := h1
  have H2 : Hid (IntsAt w g2 (tot S) (fun k => (d k).2)) := h2
  have hg1 := h1.1
  have hg2 := h2.1
  clear h hO h1 h2
  obtain ⟨ob, hob, hmt⟩ := make_run (P := Try.prog) 83 85 2 16 und83 i85' (tot S) (by omega) (by omega)
  have HT : Hid _ := hmt
  clear hmt
  obtain ⟨W2, hW2⟩ : ∃ W2, W2 = (((w.alloc (.cells #[.string e0, .string ⟨#[]⟩, .string ⟨#[]⟩, .map none, .slice (some ⟨bf, 0, none⟩) 0 0, .slice (some ⟨br, 0, none⟩) 0 0, .slice (some ⟨bs, 0, none⟩) S.length S.length, .pointer none, .bool false] 38)).alloc (.cells #[.int .i64 0, .int .i64 0, .int .i64 0] 41)).alloc (.cells #[.string ⟨#[]⟩, .string ⟨#[]⟩, .string ⟨#[]⟩, .map none, .slice none 0 0, .slice none 0 0, .slice none 0 0, .pointer none, .bool false] 38)).alloc ob := ⟨_, rfl⟩
  have hz2 : W2.heap.size = w.heap.size + 4 := by rw [hW2]; simp
  have HB2 : Hid (Below w.heap.size w W2) := by
    show Below w.heap.size w W2
    rw [hW2]; exact below_any' (by go_grown)
  have HC : Hid (W2.rangeAt w.heap.size 0 (ctx e0 bf br bs S.length)) := by
    show W2.rangeAt w.heap.size 0 (ctx e0 bf br bs S.length)
    rw [hW2]
    refine range9 ?_ ?_ ?_ ?_ ?_ ?_ ?_ ?_ ?_ <;> go_simp
  have hb0 : W2.cell? ⟨w.heap.size + 1, 0, none⟩ = some (.int .i64 0) := by rw [hW2]; go_simp
  have hb1 : W2.cell? ⟨w.heap.size + 1, 1, none⟩ = some (.int .i64 0) := by rw [hW2]; go_simp
  have hb2 : W2.cell? ⟨w.heap.size + 1, 2, none⟩ = some (.int .i64 0) := by rw [hW2]; go_simp
  have HR : Hid (W2.there (w.heap.size + 2) 0 9) := by
    show W2.there (w.heap.size + 2) 0 9
    rw [hW2]; exact World.there_alloc (there_at (fun w => there_new w #[.string ⟨#[]⟩, .string ⟨#[]⟩, .string ⟨#[]⟩, .map none, .slice none 0 0, .slice none 0 0, .slice none 0 0, .pointer none, .bool false] 38) (by simp)) ob
  have HT2 : Hid (W2.there (w.heap.size + 3) 0 (tot S * 2)) := by
    show W2.there (w.heap.size + 3) 0 (tot S * 2)
    rw [hW2]; exact there_at HT.out (by simp)
  have HBF : Hid (W2.cell? ⟨w.heap.size + 1, 0, none⟩ = some (.int .i64 0) ∧ W2.cell? ⟨w.heap.size + 1, 1, none⟩ = some (.int .i64 0) ∧ W2.cell? ⟨w.heap.size + 1, 2, none⟩ = some (.int .i64 0)) := ⟨hb0, hb1, hb2⟩
  have HW2 : Hid _ := hW2
  have HZ2 : Hid (W2.heap.size = w.heap.size + 4) := hz2
  clear hW2 hb0 hb1 hb2 hz2
  show Calls Try.prog 11 #[.agg #[.string e0, .string ⟨#[]⟩, .string ⟨#[]⟩, .map none, .slice (some ⟨bf, 0, none⟩) 0 0, .slice (some ⟨br, 0, none⟩) 0 0, .slice (some ⟨bs, 0, none⟩) S.length S.length, .pointer none, .bool false], .agg #[.int .i64 0, .int .i64 0, .int .i64 0], .slice none 0 0, .slice (some ⟨g1, 0, none⟩) (tot S) (tot S), .slice (some ⟨g2, 0, none⟩) (tot S) (tot S), .int .i64 n, .bool false] w _
  go_enter Try.func11, Try.ntmps11
  go_wp2
  go_loopw [23] (fun vi wr => ∃ k : Nat, k ≤ tot S ∧ vi = .int .i64 k ∧ Paired (w.heap.size + 3) (tot S) d W2 wr k) (fun vi _ => tot S - (intOf vi).toNat)
  case atStart =>
    rw [← HW2.out]
    exact ⟨0, by omega, rfl, Kp.refl _ _, by have := HZ2.out; omega, HT2.out, fun i hi => absurd hi (by omega)⟩
  case round =>
    obtain ⟨k, hk, rfl, hP⟩ := hrel
    have HP : Hid (Paired (w.heap.size + 3) (tot S) d W2 wr k) := hP
    have hzr : w.heap.size + 4 ≤ wr.heap.size := by have := hP.kp.size; have := HZ2.out; omega
    have HBR : Hid (Below w.heap.size w wr) := HB2.out.trans (hP.kp.below (by omega) (by have := HZ2.out; omega))
    clear hP hob
    by_cases hlt : k < tot S
    · have q1 := (H1.out.below HBR.out hg1).2 k hlt
      have q2 := (H2.out.below HBR.out hg2).2 k hlt
      simp only at q1 q2
      obtain ⟨⟨x0, a0⟩, ⟨x1, a1⟩, f0, f1⟩ := there2 HP.out.row hlt
      have hn1 : g1 ≠ w.heap.size + 3 := by omega
      have hn2 : g2 ≠ w.heap.size + 3 := by omega
      have hn3 : w.heap.size + 3 ≠ g1 := by omega
      have hn4 : w.heap.size + 3 ≠ g2 := by omega
      go_wp2_with fail
      go_region_held3 (fun w' => w'.cell? ⟨g1, k, none⟩ = some (.int .i64 ((d k).1 : Int)) ∧ w'.cell? ⟨g2, k, none⟩ = some (.int .i64 ((d k).2 : Int)) ∧
          (w'.cell? ⟨w.heap.size + 3, k * 2, none⟩).isSome = true ∧ (w'.cell? ⟨w.heap.size + 3, k * 2 + 1, none⟩).isSome = true ∧
          w'.frozen? ⟨w.heap.size + 3, k * 2, none⟩ = false ∧ w'.frozen? ⟨w.heap.size + 3, k * 2 + 1, none⟩ = false)
        (refine ⟨by go_keep, by go_keep, ?_, ?_, by go_keep, by go_keep⟩ <;> first | (go_keep; done) | (rw [World.cell?_drew]; exact isSome_set' (isSome_set' (by simp [*]))) | exact isSome_set' (isSome_set' (by simp [*]))) (fail)
      go_wp2
      go_round
      case rel =>
        refine ⟨k + 1, by omega, ie' (by omega), ?_⟩
        first
          | exact HP.out.put hlt
          | exact (HP.out.put hlt).later (Below.refl _ _).drew
      case measure => simp [intOf]; omega
    · have hP9 : Paired (w.heap.size + 3) (tot S) d W2 wr (tot S) := by
        have e : k = tot S := by omega
        have := HP.out
        rwa [e] at this
      have HP9 : Hid (Paired (w.heap.size + 3) (tot S) d W2 wr (tot S)) := hP9
      have hkr := hP9.kp
      have hz2 := HZ2.out
      have hCr : wr.rangeAt w.heap.size 0 (ctx e0 bf br bs S.length) := range_block (hkr.block _ (by omega) (by omega)) HC.out
      obtain ⟨k0, k1, k2, k3, k4, k5, k6, k7, k8⟩ := at9 hCr
      obtain ⟨b0, b1, b2⟩ := HBF.out
      rw [← hkr.cell (lt_of_cell b0) (by dsimp only; omega)] at b0
      rw [← hkr.cell (lt_of_cell b1) (by dsimp only; omega)] at b1
      rw [← hkr.cell (lt_of_cell b2) (by dsimp only; omega)] at b2
      have hRr : wr.there (w.heap.size + 2) 0 9 := there_block (hkr.block _ (by omega) (by omega)) HR.out
      have HRr : Hid (wr.there (w.heap.size + 2) 0 9) := hRr
      have HL : Hid (Calls Try.prog 21 #[.pointer (some ⟨wr.heap.size, 0, none⟩), .int .i64 n, .bool false] (wr.alloc (.cells #[.string e0, .string ⟨#[]⟩, .string ⟨#[]⟩, .map none, .slice (some ⟨bf, 0, none⟩) 0 0, .slice (some ⟨br, 0, none⟩) 0 0, .slice (some ⟨bs, 0, none⟩) S.length S.length, .pointer none, .bool false, .int .i64 0, .int .i64 0, .int .i64 0, .slice none 0 0, .slice (some ⟨w.heap.size + 3, 0, none⟩) (tot S) (tot S)] 88))
          (Left w.heap.size e0 bf br S d n (wr.alloc (.cells #[.string e0, .string ⟨#[]⟩, .string ⟨#[]⟩, .map none, .slice (some ⟨bf, 0, none⟩) 0 0, .slice (some ⟨br, 0, none⟩) 0 0, .slice (some ⟨bs, 0, none⟩) S.length S.length, .pointer none, .bool false, .int .i64 0, .int .i64 0, .int .i64 0, .slice none 0 0, .slice (some ⟨w.heap.size + 3, 0, none⟩) (tot S) (tot S)] 88)))) :=
        leave_any e0 bf br bs wr.heap.size (w.heap.size + 3) S hd d n w _ H.out (HBR.out.alloc (by omega) _) (fun j v hv => by
            have hb : (wr.alloc (.cells #[.string e0, .string ⟨#[]⟩, .string ⟨#[]⟩, .map none, .slice (some ⟨bf, 0, none⟩) 0 0, .slice (some ⟨br, 0, none⟩) 0 0, .slice (some ⟨bs, 0, none⟩) S.length S.length, .pointer none, .bool false, .int .i64 0, .int .i64 0, .int .i64 0, .slice none 0 0, .slice (some ⟨w.heap.size + 3, 0, none⟩) (tot S) (tot S)] 88)).heap[wr.heap.size]? = some (.cells #[.string e0, .string ⟨#[]⟩, .string ⟨#[]⟩, .map none, .slice (some ⟨bf, 0, none⟩) 0 0, .slice (some ⟨br, 0, none⟩) 0 0, .slice (some ⟨bs, 0, none⟩) S.length S.length, .pointer none, .bool false, .int .i64 0, .int .i64 0, .int .i64 0, .slice none 0 0, .slice (some ⟨w.heap.size + 3, 0, none⟩) (tot S) (tot S)] 88 (0, 0)) := heap_alloc_new wr _
            rw [Nat.zero_add, cell_of_row _ _ _ _ _ _ hb, ← hv]
            simp [cutc, ctx]) (by simp; omega)
          (fun k hk => World.rangeAt_alloc (hP9.got k hk) _) HO.out hnt hS ht
      clear hP9 hkr hz2 hCr hRr
      have hl3 : w.heap.size + 2 < wr.heap.size := by omega
      go_wp2_with (go_at_call 21; refine Calls.mono HL.out ?_; rintro e w5 ⟨bs', hd', O, rfl, hb5, hn5, hf5⟩; (dsimp only [heldv]); have hR5 : w5.there (w.heap.size + 1 + 1) 0 9 := there_below hb5 (World.there_alloc HRr.out _) (by simp only [World.size_alloc]; omega); have HR5 : Hid (w5.there (w.heap.size + 1 + 1) 0 9) := hR5; obtain ⟨⟨y0, n0⟩, ⟨y1, n1⟩, ⟨y2, n2⟩, ⟨y3, n3⟩, ⟨y4, n4⟩, ⟨y5, n5⟩, ⟨y6, n6⟩, ⟨y7, n7⟩, ⟨y8, n8⟩, z0, z1, z2, z3, z4, z5, z6, z7, z8⟩ := there9 hR5; have hz5 := hb5.size; have HB5 : Hid _ := hb5; have HF5 : Hid _ := hf5; clear hb5 hf5 hR5; (try simp only [World.size_alloc] at hz5))
      have hk9 : Kp (w.heap.size + 1 + 1) w5 (w5.setCells (w.heap.size + 1 + 1) 0 (heldv e0 bf br (.slice (some ⟨bs', 0, none⟩) S.length S.length) O)) := (Kp.refl _ _).setCells _ _
      have hW := World.rangeAt_setCells_same w5 (w.heap.size + 1 + 1) 0 (heldv e0 bf br (.slice (some ⟨bs', 0, none⟩) S.length S.length) O) HR5.out
      change bodyPost _ _ _ _ _ (w5.setCells (w.heap.size + 1 + 1) 0 (heldv e0 bf br (.slice (some ⟨bs', 0, none⟩) S.length S.length) O))
      generalize w5.setCells (w.heap.size + 1 + 1) 0 (heldv e0 bf br (.slice (some ⟨bs', 0, none⟩) S.length S.length) O) = W9 at hk9 hW ⊢
      obtain ⟨k0, k1, k2, k3, k4, k5, k6, k7, k8⟩ := at9 hW
      have hB9 : Below w.heap.size w W9 := ((HBR.out.alloc (by omega) _).trans (HB5.out.mono (by simp only [World.size_alloc]; omega))).trans (hk9.below (by omega) (by omega))
      obtain ⟨hsc, hob'⟩ := HF5.out W9 hk9.size (fun b hb hx => hk9.block b hb (by simp only [World.size_alloc] at hx; omega))
      refine bodyPost_ret (v := .agg (heldv e0 bf br (.slice (some ⟨bs', 0, none⟩) S.length S.length) O).toArray) (by simp [results, Try.results11, go_sem, k0, k1, k2, k3, k4, k5, k6, k7, k8, heldv]) rfl ?_
      exact ⟨bs', hd', O, rfl, hB9, hn5, hsc, hob'⟩
end Go.Proofs.Qxb6615139a
