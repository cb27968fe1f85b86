/-
  the closures ref and less of presentLastFirst.
-/
import Derived.Test.Qxb6615139aCmp
import Derived.Test.Qxb6615139aSortMem
import Derived.Deep.RegionHeld3
import Derived.Deep.DrawnRows
import Derived.Handy
import Derived.Deep.DeepCutAuto
namespace Go.Proofs.Qxb6615139a
open Go.RowKit Plain


set_option maxHeartbeats 1000000 in
theorem ref_any (p q Bc bs os n c b o m c' : Nat) (r : Rf) (w : World) (h6 : w.cell? ⟨Bc, 6, none⟩ = some (.slice (some ⟨bs, os, none⟩) n c)) (hs : w.cell? ⟨bs, os + p * 3 + 2, none⟩ = some (.slice (some ⟨b, o, none⟩) m c'))
    (h0 : w.cell? ⟨b, o + q * 3, none⟩ = some (.string r.id)) (h1 : w.cell? ⟨b, o + q * 3 + 1, none⟩ = some (.string r.ty)) (h2 : w.cell? ⟨b, o + q * 3 + 2, none⟩ = some (.string r.name)) (hp : p < n) (hq : q < m) :
    Calls Try.prog 28 #[.agg #[.int .i64 p, .int .i64 q], .pointer (some ⟨Bc, 0, none⟩)] w fun e w' => e = .returned (.agg #[.string r.id, .string r.ty, .string r.name]) ∧ Below w.heap.size w w' := by
  have l6 := lt_of_cell h6
  have ls := lt_of_cell hs
  have l0 := lt_of_cell h0
  simp only at l6 ls l0
  have ip0 : (0 : Int) ≤ (p : Int) := by omega
  have ip1 : (p : Int) < (n : Int) := by omega
  have iq0 : (0 : Int) ≤ (q : Int) := by omega
  have iq1 : (q : Int) < (m : Int) := by omega
  go_enter Try.func28, Try.ntmps28
  go_wp2
  go_region_held3 (fun w' => w'.cell? ⟨Bc, 6, none⟩ = some (.slice (some ⟨bs, os, none⟩) n c) ∧ w'.cell? ⟨bs, os + p * 3 + 2, none⟩ = some (.slice (some ⟨b, o, none⟩) m c') ∧
    w'.cell? ⟨b, o + q * 3, none⟩ = some (.string r.id) ∧ w'.cell? ⟨b, o + q * 3 + 1, none⟩ = some (.string r.ty) ∧ w'.cell? ⟨b, o + q * 3 + 2, none⟩ = some (.string r.name) ∧
    w'.cell? ⟨w.heap.size, 0, none⟩ = some (.int .i64 p) ∧ w'.cell? ⟨w.heap.size, 1, none⟩ = some (.int .i64 q)) (go_keep) (fail)
  go_wp2
  refine bodyPost_ret (v := .agg #[.string r.id, .string r.ty, .string r.name]) (by simp [results, Try.results28, go_sem]) rfl ⟨rfl, ?_⟩
  exact (((Below.refl _ _).alloc (Nat.le_refl _) _).alloc (by simp) _).drew

/-- What the two closures read: the boxes, and the two pairs of the row. -/
structure Reads (Br Bo Bc blk N cap i j p1 q1 p2 q2 : Nat) (w : World) : Prop where
  fn : w.cell? ⟨Br, 0, none⟩ = some (.func (.func 28) #[] #[.pointer (some ⟨Bc, 0, none⟩)])
  ord : w.cell? ⟨Bo, 0, none⟩ = some (.slice (some ⟨blk, 0, none⟩) N cap)
  a0 : w.cell? ⟨blk, i * 2, none⟩ = some (.int .i64 (p1 : Int))
  a1 : w.cell? ⟨blk, i * 2 + 1, none⟩ = some (.int .i64 (q1 : Int))
  b0 : w.cell? ⟨blk, j * 2, none⟩ = some (.int .i64 (p2 : Int))
  b1 : w.cell? ⟨blk, j * 2 + 1, none⟩ = some (.int .i64 (q2 : Int))

theorem Reads.later {Br Bo Bc blk N cap i j p1 q1 p2 q2 : Nat} {w w' : World} (h : Reads Br Bo Bc blk N cap i j p1 q1 p2 q2 w) (hb : Below w.heap.size w w') :
    w'.cell? ⟨Br, 0, none⟩ = some (.func (.func 28) #[] #[.pointer (some ⟨Bc, 0, none⟩)]) ∧ w'.cell? ⟨Bo, 0, none⟩ = some (.slice (some ⟨blk, 0, none⟩) N cap) ∧
    w'.cell? ⟨blk, i * 2, none⟩ = some (.int .i64 (p1 : Int)) ∧ w'.cell? ⟨blk, i * 2 + 1, none⟩ = some (.int .i64 (q1 : Int)) ∧
    w'.cell? ⟨blk, j * 2, none⟩ = some (.int .i64 (p2 : Int)) ∧ w'.cell? ⟨blk, j * 2 + 1, none⟩ = some (.int .i64 (q2 : Int)) := by
  have k : ∀ {a : Addr} {v : Value}, w.cell? a = some v → w'.cell? a = some v := fun {a v} h => by rw [hb.cell (lt_of_cell h)]; exact h
  exact ⟨k h.fn, k h.ord, k h.a0, k h.a1, k h.b0, k h.b1⟩

/-- behind the first statement: ra and rb -/
def Two (r1 r2 : Rf) (w : World) (s7 s8 : Value) (wc : World) : Prop := ∃ B1 B2, s7 = .pointer (some ⟨B1, 0, none⟩) ∧ s8 = .pointer (some ⟨B2, 0, none⟩) ∧ wc.cell? ⟨B1, 0, none⟩ = some (.string r1.id) ∧ wc.cell? ⟨B1, 2, none⟩ = some (.string r1.name) ∧ wc.cell? ⟨B2, 0, none⟩ = some (.string r2.id) ∧ wc.cell? ⟨B2, 2, none⟩ = some (.string r2.name) ∧ Below w.heap.size w wc

theorem isSome_set {w : World} {a q : Addr} {u : Value} (h : (w.cell? q).isSome = true) : ((w.setCell a u).cell? q).isSome = true := by
  obtain ⟨x, hx⟩ := Option.isSome_iff_exists.1 h
  obtain ⟨y, hy⟩ := cell?_setCell_some (p := a) (x := u) hx
  rw [hy]; rfl
theorem cell_set {w : World} {p : Addr} {v : Value} (h : (w.cell? p).isSome = true) : (w.setCell p v).cell? p = some v := by
  obtain ⟨x, hx⟩ := Option.isSome_iff_exists.1 h
  exact World.cell?_setCell_same _ _ _ hx

theorem bcell {W w1 : World} (hb : Below W.heap.size W w1) : (∀ b o, b < W.heap.size → w1.cell? ⟨b, o, none⟩ = W.cell? ⟨b, o, none⟩) ∧ (∀ b o, b < W.heap.size → w1.frozen? ⟨b, o, none⟩ = W.frozen? ⟨b, o, none⟩) :=
  ⟨fun b o h => hb.cell (p := ⟨b, o, none⟩) h, fun b o h => hb.frozen (p := ⟨b, o, none⟩) h⟩
theorem below_via {w W w1 : World} (h : Below w.heap.size w W) (hb : Below W.heap.size W w1) : Below w.heap.size w w1 := h.trans (hb.mono h.size)
theorem below_any {B : Nat} {w w' : World} (h : Below B w w') : Below B w w' := h

set_option maxHeartbeats 4000000 in
set_option maxRecDepth 100000 in
theorem less_core (Br Bo Bc blk N cap i j p1 q1 p2 q2 : Nat) (r1 r2 : Rf) (w : World) (h : Reads Br Bo Bc blk N cap i j p1 q1 p2 q2 w) (hi : i < N) (hj : j < N)
    (hc1 : ∀ W, Below w.heap.size w W → Calls Try.prog 28 #[.agg #[.int .i64 p1, .int .i64 q1], .pointer (some ⟨Bc, 0, none⟩)] W fun e w' => e = .returned (.agg #[.string r1.id, .string r1.ty, .string r1.name]) ∧ Below W.heap.size W w')
    (hc2 : ∀ W, Below w.heap.size w W → Calls Try.prog 28 #[.agg #[.int .i64 p2, .int .i64 q2], .pointer (some ⟨Bc, 0, none⟩)] W fun e w' => e = .returned (.agg #[.string r2.id, .string r2.ty, .string r2.name]) ∧ Below W.heap.size W w') :
    Calls Try.prog 30 #[.int .i64 i, .int .i64 j, .pointer (some ⟨Br, 0, none⟩), .pointer (some ⟨Bo, 0, none⟩)] w fun e w' => e = .returned (.bool (tg r1 p1 r2 p2)) ∧ Below w.heap.size w w' := by
  have HC1 : Hid _ := hc1
  have HC2 : Hid _ := hc2
  have HR : Hid (Reads Br Bo Bc blk N cap i j p1 q1 p2 q2 w) := h
  obtain ⟨x0, x1, x2, x3, x4, x5⟩ := h.later (Below.refl _ _)
  have ii0 : (0 : Int) ≤ (i : Int) := by omega
  have ii1 : (i : Int) < (N : Int) := by omega
  have ij0 : (0 : Int) ≤ (j : Int) := by omega
  have ij1 : (j : Int) < (N : Int) := by omega
  clear hc1 hc2 h
  go_enter Try.func30, Try.ntmps30
  go_wp2_with fail
  go_cut [7, 8] (fun s7 s8 wc => Two r1 r2 w s7 s8 wc)
  case first =>
    go_region_held3 (fun w' => w'.cell? ⟨Br, 0, none⟩ = some (.func (.func 28) #[] #[.pointer (some ⟨Bc, 0, none⟩)]) ∧ w'.cell? ⟨Bo, 0, none⟩ = some (.slice (some ⟨blk, 0, none⟩) N cap) ∧
      w'.cell? ⟨blk, i * 2, none⟩ = some (.int .i64 (p1 : Int)) ∧ w'.cell? ⟨blk, i * 2 + 1, none⟩ = some (.int .i64 (q1 : Int)) ∧
      w'.cell? ⟨blk, j * 2, none⟩ = some (.int .i64 (p2 : Int)) ∧ w'.cell? ⟨blk, j * 2 + 1, none⟩ = some (.int .i64 (q2 : Int)))
      ((refine HR.out.later ?_; go_grown))
      (first
        | (go_at_call_of 28 (Value.int .i64 (p1 : Int)); refine (HC1.out _ (below_any (by go_grown))).mono ?_; rintro e w1 ⟨rfl, hb1⟩; obtain ⟨hcl1, hfr1⟩ := bcell hb1; have hz1 := hb1.size; have hB1 := below_via (w := w) (by go_grown) hb1; have hzz1 : w.heap.size ≤ w1.heap.size := hB1.size; clear hb1; (try simp only [World.size_alloc, World.size_drew] at hcl1 hfr1 hz1); (try have hy1 := Nat.lt_of_succ_le hz1); (try have hx1 := Nat.lt_of_succ_lt hy1))
        | (go_at_call_of 28 (Value.int .i64 (p2 : Int)); refine (HC2.out _ (below_any (by go_grown))).mono ?_; rintro e w2 ⟨rfl, hb2⟩; obtain ⟨hcl2, hfr2⟩ := bcell hb2; have hz2 := hb2.size; have hB2 := below_via (w := w) (by go_grown) hb2; have hzz2 : w.heap.size ≤ w2.heap.size := hB2.size; clear hb2; (try simp only [World.size_alloc] at hcl2 hfr2 hz2); (try have hy2 := Nat.lt_of_succ_le hz2); (try have hx2 := Nat.lt_of_succ_lt hy2); (try have hu2 := Nat.lt_of_lt_of_le hy1 hz2); (try have hv2 := Nat.lt_of_lt_of_le hx1 hz2); (try have hs2 := Nat.lt_trans hy1 hy2); (try have ht2 := Nat.lt_trans hx1 hy2)))
    all_goals go_wp2
    all_goals
      go_meet
      case rel =>
        refine ⟨_, _, rfl, rfl, ?_, ?_, ?_, ?_, by go_grown⟩
        all_goals first
          | (go_simp; done)
          | (go_simp; refine cell_set ?_; (repeat refine isSome_set ?_); (try rw [hcl2 _ _ (by omega)]); (try go_simp); (try rw [hcl1 _ _ (by omega)]); (try go_simp); done)
  case rest =>
    obtain ⟨B1, B2, rfl, rfl, y0, y1, y2, y3, hb⟩ := hcut
    have HB : Hid (Below w.heap.size w wc) := hb
    obtain ⟨x0, x1, x2, x3, x4, x5⟩ := HR.out.later hb
    clear hb
    by_cases h1 : r1.name.toList = r2.name.toList
    · by_cases h2 : r1.id.toList = r2.id.toList
      · have HE : Hid (tg r1 p1 r2 p2 = decide (p2 < p1)) := by show tg r1 p1 r2 p2 = _; simp [tg, h1, h2]
        have n1 : (!r1.name.toList == r2.name.toList) = false := by simp [h1]
        have n2 : (!r1.id.toList == r2.id.toList) = false := by simp [h2]
        clear h1 h2
        go_wp2_with fail
        go_quiet (fail)
        go_wp2
        go_ret
        exact ⟨ret_bool (by rw [HE.out]), below_drewN HB.out _⟩
      · have HE : Hid (tg r1 p1 r2 p2 = gtL r1.id.toList r2.id.toList) := by show tg r1 p1 r2 p2 = _; simp [tg, h1, h2]
        have n1 : (!r1.name.toList == r2.name.toList) = false := by simp [h1]
        have n2 : (!r1.id.toList == r2.id.toList) = true := by simp [h2]
        clear h1 h2
        go_wp2
        go_ret
        exact ⟨ret_bool (by rw [HE.out]; unfold gtL; rw [n2]; simp), HB.out⟩
    · have HE : Hid (tg r1 p1 r2 p2 = gtL r1.name.toList r2.name.toList) := by show tg r1 p1 r2 p2 = _; simp [tg, h1]
      have n1 : (!r1.name.toList == r2.name.toList) = true := by simp [h1]
      clear h1
      go_wp2
      go_ret
      exact ⟨ret_bool (by rw [HE.out]; unfold gtL; rw [n1]; simp), HB.out⟩
end Go.Proofs.Qxb6615139a
