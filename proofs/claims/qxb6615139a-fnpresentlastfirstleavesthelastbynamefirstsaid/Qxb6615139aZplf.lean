/-
  ZZPresentLastFirst: the sorted places as two rows of ints.
-/
import Derived.Test.Qxb6615139aPlf
namespace Go.Proofs.Qxb6615139a
open Go.RowKit Plain

/-- the ints f 0, f 1, .. lie in block g -/
def IntsAt (w : World) (g N : Nat) (f : Nat → Nat) : Prop := g < w.heap.size ∧ ∀ k, k < N → w.cell? ⟨g, k, none⟩ = some (.int .i64 (f k : Int))

theorem IntsAt.below {w w' : World} {B g N : Nat} {f : Nat → Nat} (h : IntsAt w g N f) (hb : Below B w w') (hg : g < B) : IntsAt w' g N f :=
  ⟨Nat.lt_of_lt_of_le h.1 hb.size, fun k hk => by rw [hb.cell (p := ⟨g, k, none⟩) hg]; exact h.2 k hk⟩

/-- k places are copied into the two rows g1 and g2, new since w -/
structure Split (g1 g2 N : Nat) (d : Nat → Nat × Nat) (w wr : World) (k : Nat) : Prop where
  below : Below w.heap.size w wr
  l1 : w.heap.size ≤ g1
  l2 : w.heap.size ≤ g2
  ne : g1 ≠ g2
  z1 : g1 < wr.heap.size
  z2 : g2 < wr.heap.size
  r1 : wr.there g1 0 N
  r2 : wr.there g2 0 N
  a1 : ∀ i, i < k → wr.cell? ⟨g1, i, none⟩ = some (.int .i64 ((d i).1 : Int))
  a2 : ∀ i, i < k → wr.cell? ⟨g2, i, none⟩ = some (.int .i64 ((d i).2 : Int))

theorem Split.later {g1 g2 N : Nat} {d : Nat → Nat × Nat} {w wr w' : World} {k : Nat} (h : Split g1 g2 N d w wr k) (hb : Below wr.heap.size wr w') : Split g1 g2 N d w w' k :=
  ⟨h.below.trans (hb.mono h.below.size), h.l1, h.l2, h.ne, Nat.lt_of_lt_of_le h.z1 hb.size, Nat.lt_of_lt_of_le h.z2 hb.size, there_below hb h.r1 h.z1, there_below hb h.r2 h.z2,
    fun i hi => by rw [hb.cell (p := ⟨g1, i, none⟩) h.z1]; exact h.a1 i hi, fun i hi => by rw [hb.cell (p := ⟨g2, i, none⟩) h.z2]; exact h.a2 i hi⟩

theorem Split.put {g1 g2 N : Nat} {d : Nat → Nat × Nat} {w wr : World} {k : Nat} (h : Split g1 g2 N d w wr k) (hk : k < N) :
    Split g1 g2 N d w ((wr.setCell ⟨g1, k, none⟩ (.int .i64 ((d k).1 : Int))).setCell ⟨g2, k, none⟩ (.int .i64 ((d k).2 : Int))) (k + 1) := by
  have hk1 : Kp g1 wr (wr.setCell ⟨g1, k, none⟩ (.int .i64 ((d k).1 : Int))) := (Kp.refl _ _).setCells k [.int .i64 ((d k).1 : Int)]
  have t1 : ∀ {b n : Nat}, wr.there b 0 n → (wr.setCell ⟨g1, k, none⟩ (.int .i64 ((d k).1 : Int))).there b 0 n := fun hh => World.there_setCells hh g1 k [.int .i64 ((d k).1 : Int)]
  have c1 : (wr.setCell ⟨g1, k, none⟩ (.int .i64 ((d k).1 : Int))).cell? ⟨g1, k, none⟩ = some (.int .i64 ((d k).1 : Int)) := by
    have := (h.r1 k hk).1
    rw [Nat.zero_add] at this
    obtain ⟨x, hx⟩ := Option.isSome_iff_exists.1 this
    exact World.cell?_setCell_same _ _ _ hx
  have o1 : ∀ i, i < k → (wr.setCell ⟨g1, k, none⟩ (.int .i64 ((d k).1 : Int))).cell? ⟨g1, i, none⟩ = some (.int .i64 ((d i).1 : Int)) := fun i hi => by
    rw [World.cell?_setCell_other _ _ _ _ (fun e => by simp only [Addr.mk.injEq] at e; omega)]; exact h.a1 i hi
  have o2 : ∀ i, i < k → (wr.setCell ⟨g1, k, none⟩ (.int .i64 ((d k).1 : Int))).cell? ⟨g2, i, none⟩ = some (.int .i64 ((d i).2 : Int)) := fun i hi => by
    rw [hk1.cell (p := ⟨g2, i, none⟩) h.z2 (fun e => h.ne e.symm)]; exact h.a2 i hi
  have tt1 := t1 h.r1
  have tt2 := t1 h.r2
  generalize wr.setCell ⟨g1, k, none⟩ (.int .i64 ((d k).1 : Int)) = W at *
  have hk2 : Kp g2 W (W.setCell ⟨g2, k, none⟩ (.int .i64 ((d k).2 : Int))) := (Kp.refl _ _).setCells k [.int .i64 ((d k).2 : Int)]
  have z1 := hk1.size
  have z2 := hk2.size
  have hz1 := h.z1
  have hz2 := h.z2
  refine ⟨(h.below.trans (hk1.below h.l1 h.below.size)).trans (hk2.below h.l2 (Nat.le_trans h.below.size z1)), h.l1, h.l2, h.ne, by omega, by omega, World.there_setCells tt1 g2 k [.int .i64 ((d k).2 : Int)], World.there_setCells tt2 g2 k [.int .i64 ((d k).2 : Int)], fun i hi => ?_, fun i hi => ?_⟩
  · rw [hk2.cell (p := ⟨g1, i, none⟩) (by dsimp only; omega) h.ne]
    by_cases e : i = k
    · rw [e]; exact c1
    · exact o1 i (by omega)
  · by_cases e : i = k
    · rw [e]
      have := (tt2 k hk).1
      rw [Nat.zero_add] at this
      obtain ⟨x, hx⟩ := Option.isSome_iff_exists.1 this
      exact World.cell?_setCell_same _ _ _ hx
    · rw [World.cell?_setCell_other _ _ _ _ (fun e => by simp only [Addr.mk.injEq] at e; omega)]; exact o2 i (by omega)

theorem there1 {w : World} {b n i : Nat} (h : w.there b 0 n) (hi : i < n) : (∃ x, w.cell? ⟨b, i, none⟩ = some x) ∧ w.frozen? ⟨b, i, none⟩ = false := by
  have := h i hi
  rw [Nat.zero_add] at this
  exact ⟨Option.isSome_iff_exists.1 this.1, this.2⟩

set_option maxHeartbeats 1000000 in
set_option maxRecDepth 100000 in
theorem zzPresentLastFirst_any (e0 : ByteArray) (bf br bs : Nat) (S : List Sc) (hd : Nat → Option Addr × Nat) (w : World) (h : ScAt w (some ⟨bs, 0, none⟩) S hd) (hS : S.length ≤ 1048576) (ht : tot S ≤ 1048576) :
    Calls Try.prog 15 #[.agg (ctx e0 bf br bs S.length).toArray] w fun e w' => ∃ g1 g2 d, e = .returned (.tuple #[.slice (some ⟨g1, 0, none⟩) (tot S) (tot S), .slice (some ⟨g2, 0, none⟩) (tot S) (tot S)]) ∧ Below w.heap.size w w' ∧
      IntsAt w' g1 (tot S) (fun k => (d k).1) ∧ IntsAt w' g2 (tot S) (fun k => (d k).2) ∧ ((List.range (tot S)).map d).Perm (enK S S.length) ∧ Srt (ltp S) 0 (tot S) d := by
  have HC : Hid _ := presentLastFirst_any e0 bf br bs S hd (w.alloc (.cells #[.string e0, .string ⟨#[]⟩, .string ⟨#[]⟩, .map none, .slice (some ⟨bf, 0, none⟩) 0 0, .slice (some ⟨br, 0, none⟩) 0 0, .slice (some ⟨bs, 0, none⟩) S.length S.length, .pointer none, .bool false] 38)) (h.below ((Below.refl _ _).alloc (Nat.le_refl _) _) (Nat.le_refl _)) hS ht
  have hN : (enK S S.length).length = tot S := by rw [enK_length S _ (Nat.le_refl _), List.take_length]
  have HN : Hid ((enK S S.length).length = tot S) := hN
  clear h hN
  obtain ⟨ob, hob, hth⟩ := make_run (P := Try.prog) 25 3 1 8 und25 i3 (tot S) (by omega) (by omega)
  have HT : Hid _ := hth
  clear hth
  show Calls Try.prog 15 #[.agg #[.string e0, .string ⟨#[]⟩, .string ⟨#[]⟩, .map none, .slice (some ⟨bf, 0, none⟩) 0 0, .slice (some ⟨br, 0, none⟩) 0 0, .slice (some ⟨bs, 0, none⟩) S.length S.length, .pointer none, .bool false]] w _
  go_enter Try.func15, Try.ntmps15
  go_wp2_with (go_at_call 22; refine Calls.mono HC.out ?_; rintro e w1 ⟨v, d, rfl, hb1, hs1⟩; have HS1 : Hid _ := hs1; have HB1 : Hid _ := hb1; obtain ⟨p, cap, hv⟩ := hs1.form; rw [HN.out] at hv; subst hv; clear hs1 hb1 HC)
  go_loopw [19] (fun vi wr => ∃ k : Nat, k ≤ tot S ∧ vi = .int .i64 k ∧ Split w1.heap.size (w1.heap.size + 1) (tot S) d w1 wr k) (fun vi _ => tot S - (intOf vi).toNat)
  case atStart =>
    refine ⟨0, by omega, rfl, below_any' (by go_grown), Nat.le_refl _, by omega, by omega, by simp; omega, by simp, World.there_alloc (there_at (fun w => by have := HT.out w; rwa [Nat.mul_one] at this) rfl) _, there_at (fun w => by have := HT.out w; rwa [Nat.mul_one] at this) (by simp), fun i hi => absurd hi (by omega), fun i hi => absurd hi (by omega)⟩
  case round =>
    obtain ⟨k, hk, rfl, hP⟩ := hrel
    have HP : Hid (Split w1.heap.size (w1.heap.size + 1) (tot S) d w1 wr k) := hP
    clear hP
    by_cases hlt : k < tot S
    · obtain ⟨g, c, hv, hg, hr⟩ := HS1.out.at' k (by rw [HN.out]; exact hlt)
      simp only [Value.slice.injEq] at hv
      obtain ⟨rfl, -, rfl⟩ := hv
      have hr' := rangeAt_below HP.out.below hr hg
      have q0 : wr.cell? ⟨g, k * 2, none⟩ = some (.int .i64 ((d k).1 : Int)) := hr' 0 _ rfl
      have q1 : wr.cell? ⟨g, k * 2 + 1, none⟩ = some (.int .i64 ((d k).2 : Int)) := hr' 1 _ rfl
      obtain ⟨⟨x1, n1⟩, f1⟩ := there1 HP.out.r1 hlt
      obtain ⟨⟨x2, n2⟩, f2⟩ := there1 HP.out.r2 hlt
      have z1 := HP.out.z1
      have z2 := HP.out.z2
      have z3 : g < wr.heap.size := by omega
      clear hr hr'
      go_wp2
      go_round
      case rel => exact ⟨k + 1, by omega, ie' (by omega), (HP.out.put hlt).later ((Below.refl _ _).alloc (Nat.le_refl _) _)⟩
      case measure => simp [intOf]; omega
    · have HP' : Hid (Split w1.heap.size (w1.heap.size + 1) (tot S) d w1 wr (tot S)) := by
        have e : k = tot S := by omega
        have := HP.out
        rwa [e] at this
      go_wp2
      refine bodyPost_ret (v := .tuple #[.slice (some ⟨w1.heap.size, 0, none⟩) (tot S) (tot S), .slice (some ⟨w1.heap.size + 1, 0, none⟩) (tot S) (tot S)]) (by simp [results, Try.results15, go_sem]) rfl ?_
      have hb := HB1.out
      refine ⟨_, _, d, rfl, ?_, ⟨HP'.out.z1, HP'.out.a1⟩, ⟨HP'.out.z2, HP'.out.a2⟩, ?_, ?_⟩
      · have h0 : Below w.heap.size w (w.alloc (.cells #[.string e0, .string ⟨#[]⟩, .string ⟨#[]⟩, .map none, .slice (some ⟨bf, 0, none⟩) 0 0, .slice (some ⟨br, 0, none⟩) 0 0, .slice (some ⟨bs, 0, none⟩) S.length S.length, .pointer none, .bool false] 38)) := (Below.refl _ _).alloc (Nat.le_refl _) _
        exact (h0.trans (hb.mono h0.size)).trans (HP'.out.below.mono (Nat.le_trans h0.size hb.size))
      · have := HS1.out.perm; rwa [HN.out] at this
      · have := HS1.out.srt; rwa [HN.out] at this
end Go.Proofs.Qxb6615139a
