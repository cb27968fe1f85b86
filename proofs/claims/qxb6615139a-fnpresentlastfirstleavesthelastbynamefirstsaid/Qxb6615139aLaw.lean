/-
  The law.
-/
import Derived.Test.Qxb6615139aZleave
import Derived.Test.Qxb6615139aCount2
namespace Go.Proofs.Qxb6615139a
open Go.RowKit Go.Maps Plain

theorem Laid.scAt {e0 : ByteArray} {B : Nat} {S : List Sc} {w wr : World} {hd : Nat → Option Addr × Nat} (h : Laid e0 B S w wr S.length hd) : ScAt wr (some ⟨B + 4, 0, none⟩) S hd := fun i s hs => by
  obtain ⟨h1, -, h3⟩ := h.got i s (List.getElem?_eq_some_iff.1 hs).1 hs
  have := h.sz
  exact ⟨⟨B + 4, 0, rfl, by omega, by rw [Nat.zero_add]; exact h1⟩, h3⟩

/-- the two references that the law keeps, in the blocks B and B + 1 -/
structure Boxes (B : Nat) (W0 wr : World) (kr gr : Rf) : Prop where
  below : Below B W0 wr
  sz : B + 2 ≤ wr.heap.size
  kb : wr.rangeAt B 0 (rc kr)
  kf : wr.there B 0 3
  gb : wr.rangeAt (B + 1) 0 (rc gr)
  gf : wr.there (B + 1) 0 3

theorem range_new (w : World) (cs : List Value) (t : TypeId) : (w.alloc (.cells cs.toArray t)).rangeAt w.heap.size 0 cs := fun j v hv => by
  have hb : (w.alloc (.cells cs.toArray t)).heap[w.heap.size]? = some (.cells cs.toArray t (0, 0)) := heap_alloc_new w _
  generalize w.alloc (.cells cs.toArray t) = W at hb ⊢
  rw [Nat.zero_add, cell_of_row W _ _ _ _ _ hb]
  simpa using hv

theorem range_at {W : World} {ob : Obj} {b : Nat} {cs : List Value} (h : ∀ w : World, (w.alloc ob).rangeAt w.heap.size 0 cs) (e : W.heap.size = b) : (W.alloc ob).rangeAt b 0 cs := e ▸ h W

theorem boxes_new (W0 : World) : Boxes W0.heap.size W0 ((W0.alloc (.cells #[.string ⟨#[]⟩, .string ⟨#[]⟩, .string ⟨#[]⟩] 78)).alloc (.cells #[.string ⟨#[]⟩, .string ⟨#[]⟩, .string ⟨#[]⟩] 78)) ⟨⟨#[]⟩, ⟨#[]⟩, ⟨#[]⟩⟩ ⟨⟨#[]⟩, ⟨#[]⟩, ⟨#[]⟩⟩ :=
  ⟨((Below.refl _ _).alloc (Nat.le_refl _) _).alloc (by simp) _, by simp, World.rangeAt_alloc (range_new W0 (rc ⟨⟨#[]⟩, ⟨#[]⟩, ⟨#[]⟩⟩) 78) _, World.there_alloc (there_new W0 #[.string ⟨#[]⟩, .string ⟨#[]⟩, .string ⟨#[]⟩] 78) _,
    range_at (fun w => range_new w (rc ⟨⟨#[]⟩, ⟨#[]⟩, ⟨#[]⟩⟩) 78) (by simp), there_at (fun w => there_new w #[.string ⟨#[]⟩, .string ⟨#[]⟩, .string ⟨#[]⟩] 78) (by simp)⟩

theorem Boxes.later {B : Nat} {W0 wr w' : World} {kr gr : Rf} (h : Boxes B W0 wr kr gr) (hb : Below wr.heap.size wr w') : Boxes B W0 w' kr gr := by
  have h1 := h.sz
  have h2 := hb.size
  exact ⟨h.below.trans (hb.mono (by omega)), by omega, rangeAt_below hb h.kb (by omega), there_below hb h.kf (by omega), rangeAt_below hb h.gb (by omega), there_below hb h.gf (by omega)⟩

theorem Boxes.putK {B : Nat} {W0 wr : World} {kr gr : Rf} (h : Boxes B W0 wr kr gr) (r : Rf) : Boxes B W0 (wr.setCells B 0 (rc r)) r gr := by
  have hk : Kp B wr (wr.setCells B 0 (rc r)) := (Kp.refl _ _).setCells _ _
  have h1 := h.sz
  have h2 := hk.size
  exact ⟨h.below.trans (hk.below (Nat.le_refl _) (by omega)), by omega, World.rangeAt_setCells_same _ _ _ _ h.kf, World.there_setCells h.kf _ _ _, World.rangeAt_setCells_apart h.gb _ _ _ (.inl (by omega)), World.there_setCells h.gf _ _ _⟩

theorem Boxes.putG {B : Nat} {W0 wr : World} {kr gr : Rf} (h : Boxes B W0 wr kr gr) (r : Rf) : Boxes B W0 (wr.setCells (B + 1) 0 (rc r)) kr r := by
  have hk : Kp (B + 1) wr (wr.setCells (B + 1) 0 (rc r)) := (Kp.refl _ _).setCells _ _
  have h1 := h.sz
  have h2 := hk.size
  exact ⟨h.below.trans (hk.below (by omega) (by omega)), by omega, World.rangeAt_setCells_apart h.kb _ _ _ (.inl (by omega)), World.there_setCells h.kf _ _ _, World.rangeAt_setCells_same _ _ _ _ h.gf, World.there_setCells h.gf _ _ _⟩

theorem there3' {w : World} {b : Nat} (h : w.there b 0 3) :
    (∃ x, w.cell? ⟨b, 0, none⟩ = some x) ∧ (∃ x, w.cell? ⟨b, 1, none⟩ = some x) ∧ (∃ x, w.cell? ⟨b, 2, none⟩ = some x) ∧
    w.frozen? ⟨b, 0, none⟩ = false ∧ w.frozen? ⟨b, 1, none⟩ = false ∧ w.frozen? ⟨b, 2, none⟩ = false := by
  have h0 := h 0 (by omega)
  have h1 := h 1 (by omega)
  have h2 := h 2 (by omega)
  rw [Nat.zero_add] at h0 h1 h2
  exact ⟨Option.isSome_iff_exists.1 h0.1, Option.isSome_iff_exists.1 h1.1, Option.isSome_iff_exists.1 h2.1, h0.2, h1.2, h2.2⟩

/-- what the law has seen of those that stay and of those that go -/
structure Seen (S : List Sc) (d : Nat → Nat × Nat) (n : Nat) (hk hg : Bool) (kr gr : Rf) (kp gp : Nat) : Prop where
  kept : hk = true → KeptV (cutS d n S) kr kp
  gone : hg = true → GoneV S d n gr gp


set_option maxHeartbeats 4000000 in
set_option maxRecDepth 100000 in
theorem law_any (a : Option Addr) (cap : Nat) (n : Int) (S : List Sc) (hd : Nat → Option Addr × Nat) (w : World) (h : ScAt w a S hd) (hm : S.length ≤ 9223372036854775807) (hl : Fits S) :
    Calls Try.prog 5 #[.slice a S.length cap, .int .i64 n] w fun e w' => e = .returned (.bool true) ∧ Below w.heap.size w w' := by
  have H : Hid (ScAt w a S hd) := h
  have HZ : Hid (Calls Try.prog 18 #[.slice a S.length cap, .int .i64 n] w fun e w' => IsB e ∧ w = w') := zzBytes_any a cap n S hd w h hm hl
  have HSB : Hid (Calls Try.prog 14 #[.slice a S.length cap, .int .i64 0] w fun e w' => ∃ v : Int, e = .returned (.int .i64 v) ∧ (v ≤ 1048576 → 56 * S.length + 48 * tot S ≤ 1048576) ∧ Below w.heap.size w w') := scenesBytes_any a cap S hd w h hm hl
  clear h hl
  by_cases hbig : ¬ (56 * S.length + 48 * tot S ≤ 1048576)
  ·
    go_enter Try.func5, Try.ntmps5
    go_wp2_with (first
      | (go_at_call 18; refine Calls.mono HZ.out ?_; rintro e w1 ⟨⟨_ | _, rfl⟩, rfl⟩)
      | (go_at_call 14; refine Calls.mono HSB.out ?_; rintro e w1 ⟨v, rfl, hv, hb⟩; have hgv : 1048576 < v := by (refine Classical.byContradiction fun hc => hbig (hv (by omega)))))
    all_goals
      go_ret
      exact ⟨rfl, by first | exact Below.refl _ _ | assumption⟩
  · have hsum : 56 * S.length + 48 * tot S ≤ 1048576 := Classical.byContradiction hbig
    have hS : S.length ≤ 1048576 := by omega
    have ht : tot S ≤ 1048576 := by omega
    clear hbig hsum hm
    have HPC : Hid (∀ W, Below w.heap.size w W → Calls Try.prog 16 #[.slice a S.length cap] W fun e w' => e = .returned (.int .i64 (tot S : Int)) ∧ W = w') := fun W hW => presentCount_any a cap S hd W (H.out.below hW (Nat.le_refl _)) hS ht
    by_cases hn1 : n < 0
    ·
      go_enter Try.func5, Try.ntmps5
      go_wp2_with (first
        | (go_at_call 18; refine Calls.mono HZ.out ?_; rintro e w1 ⟨⟨_ | _, rfl⟩, rfl⟩)
        | (go_at_call 14; refine Calls.mono HSB.out ?_; rintro e w1 ⟨v, rfl, hv, hb1⟩; clear hv; have HB1 : Hid _ := hb1; clear hb1; by_cases hgv : 1048576 < v)
        | (go_at_call 16; refine Calls.mono (HPC.out _ HB1.out) ?_; rintro e w2 ⟨rfl, rfl⟩))
      all_goals
        go_ret
        exact ⟨rfl, by first | exact Below.refl _ _ | exact HB1.out⟩
    by_cases hn2 : (tot S : Int) < n
    ·
      go_enter Try.func5, Try.ntmps5
      go_wp2_with (first
        | (go_at_call 18; refine Calls.mono HZ.out ?_; rintro e w1 ⟨⟨_ | _, rfl⟩, rfl⟩)
        | (go_at_call 14; refine Calls.mono HSB.out ?_; rintro e w1 ⟨v, rfl, hv, hb1⟩; clear hv; have HB1 : Hid _ := hb1; clear hb1; by_cases hgv : 1048576 < v)
        | (go_at_call 16; refine Calls.mono (HPC.out _ HB1.out) ?_; rintro e w2 ⟨rfl, rfl⟩))
      all_goals
        go_ret
        exact ⟨rfl, by first | exact Below.refl _ _ | exact HB1.out⟩
    obtain ⟨m, rfl⟩ : ∃ m : Nat, n = m := ⟨n.toNat, by omega⟩
    have hmt : m ≤ tot S := by omega
    clear hn1 hn2
    have HBC : Hid (∀ W, Below w.heap.size w W → Calls Try.prog 9 #[.string ⟨#[]⟩, .slice none 0 0, .slice none 0 0, .slice a S.length cap] W fun e w' => ∃ bf br bs hd', e = .returned (.agg #[.string ⟨#[]⟩, .string ⟨#[]⟩, .string ⟨#[]⟩, .map none, .slice (some ⟨bf, 0, none⟩) 0 0, .slice (some ⟨br, 0, none⟩) 0 0, .slice (some ⟨bs, 0, none⟩) S.length S.length, .pointer none, .bool false]) ∧
        Below W.heap.size W w' ∧ ScAt w' (some ⟨bs, 0, none⟩) S hd') := fun W hW => (buildContext_any ⟨#[]⟩ a cap S hd W (H.out.below hW (Nat.le_refl _)) hS ht).mono fun e w' h => by
      obtain ⟨hd', rfl, hL⟩ := h
      exact ⟨_, _, _, hd', rfl, hL.below, hL.scAt⟩
    go_enter Try.func5, Try.ntmps5
    go_wp2_with (first
      | (go_at_call 18; refine Calls.mono HZ.out ?_; rintro e w1 ⟨⟨_ | _, rfl⟩, rfl⟩)
      | (go_at_call 14; refine Calls.mono HSB.out ?_; rintro e w1 ⟨v, rfl, hv, hb1⟩; clear hv; have HB1 : Hid _ := hb1; clear hb1; by_cases hgv : 1048576 < v)
      | (go_at_call 16; refine Calls.mono (HPC.out _ HB1.out) ?_; rintro e w2 ⟨rfl, rfl⟩)
      | (go_at_call 9; refine Calls.mono (HBC.out _ HB1.out) ?_; rintro e w2 ⟨bf, br, bs, hd2, rfl, hb2, hs2⟩; have HB2 : Hid _ := hb2; have HS2 : Hid (ScAt w2 (some ⟨bs, 0, none⟩) S hd2) := hs2; clear hb2 hs2 HPC HZ HSB HBC)
      | (go_at_call 15; refine Calls.mono (zzPresentLastFirst_any ⟨#[]⟩ bf br bs S hd2 _ (HS2.out.below (below_any' (by go_grown)) (Nat.le_refl _)) hS ht) ?_; rintro e w3 ⟨g1, g2, d, rfl, hb3, hi1, hi2, hpm, hsr⟩; have HI1 : Hid (IntsAt w3 g1 (tot S) (fun k => (d k).1)) := hi1; have HI2 : Hid (IntsAt w3 g2 (tot S) (fun k => (d k).2)) := hi2; have HO : Hid (Order S d) := order_of hpm hsr; have HB3 : Hid _ := hb3; clear hb3 hi1 hi2 hpm hsr))
    any_goals
      go_ret
      exact ⟨rfl, by first | exact Below.refl _ _ | exact HB1.out⟩
    have hsz2 := HB2.out.size
    have hsz1 := HB1.out.size
    have hsz3 : w2.heap.size + 1 ≤ w3.heap.size := by have := HB3.out.size; simpa using this
    have HBL : Hid (Below w.heap.size w w3) := HB1.out.trans ((HB2.out.mono hsz1).trans (((Below.refl w.heap.size _).alloc (by omega) _).trans (HB3.out.mono (by simp; omega))))
    have HS3 : Hid (ScAt w3 (some ⟨bs, 0, none⟩) S hd2) := HS2.out.below (((Below.refl w2.heap.size _).alloc (Nat.le_refl _) _).trans (HB3.out.mono (by simp))) (Nat.le_refl _)
    have HC3 : Hid (w3.rangeAt w2.heap.size 0 [.string ⟨#[]⟩, .string ⟨#[]⟩, .string ⟨#[]⟩, .map none, .slice (some ⟨bf, 0, none⟩) 0 0, .slice (some ⟨br, 0, none⟩) 0 0, .slice (some ⟨bs, 0, none⟩) S.length S.length, .pointer none, .bool false]) := rangeAt_below HB3.out (range9 (by go_simp) (by go_simp) (by go_simp) (by go_simp) (by go_simp) (by go_simp) (by go_simp) (by go_simp) (by go_simp)) (by simp)
    have hl2 : w2.heap.size < w3.heap.size := by omega
    clear HB1 HB2 HB3 HS2 hsz1 hsz2
    go_loopw [9] (fun vi wr => ∃ k : Nat, k ≤ tot S ∧ vi = .int .i64 k ∧ Below w3.heap.size w3 wr) (fun vi _ => tot S - (intOf vi).toNat)
    case atStart => exact ⟨0, by omega, rfl, Below.refl _ _⟩
    case round =>
      obtain ⟨k, hk, rfl, hB⟩ := hrel
      have HB : Hid (Below w3.heap.size w3 wr) := hB
      have HBr : Hid (Below w.heap.size w wr) := HBL.out.trans (hB.mono HBL.out.size)
      clear hB
      by_cases hlt : k < tot S
      ·
        obtain ⟨⟨s0, i0⟩, hdk⟩ : ∃ p, d k = p := ⟨_, rfl⟩
        have q1 := (HI1.out.below HB.out HI1.out.1).2 k hlt
        have q2 := (HI2.out.below HB.out HI2.out.1).2 k hlt
        obtain ⟨s, r, hs, hr⟩ := HO.out.ok k hlt
        simp only [hdk] at q1 q2 hs hr
        have ls := (List.getElem?_eq_some_iff.1 hs).1
        have lr := (List.getElem?_eq_some_iff.1 hr).1
        have hm' : s.pres.length ≤ 1048576 := by
          have := tot_take hs
          have := tot_take_le S (s0 + 1)
          omega
        obtain ⟨⟨b, off, rfl, hbw, hrg⟩, -⟩ := H.out.below HBr.out (Nat.le_refl _) s0 s hs
        obtain ⟨c0, c1, c2⟩ := at3s hrg
        clear hrg hs hr hdk
        go_wp2_with fail
        go_quiet (fail)
        go_wp2
        go_round
        case rel => exact ⟨k + 1, by omega, ie' (by omega), below_drewN HB.out nq⟩
        case measure => simp [intOf]; omega
      ·
        have hsz := HB.out.size
        have hsc : ScAt wr (some ⟨bs, 0, none⟩) S hd2 := HS3.out.below HB.out (Nat.le_refl _)
        have hi1 := HI1.out.below HB.out HI1.out.1
        have hi2 := HI2.out.below HB.out HI2.out.1
        have HLV : Hid (Calls Try.prog 11 #[.agg #[.string ⟨#[]⟩, .string ⟨#[]⟩, .string ⟨#[]⟩, .map none, .slice (some ⟨bf, 0, none⟩) 0 0, .slice (some ⟨br, 0, none⟩) 0 0, .slice (some ⟨bs, 0, none⟩) S.length S.length, .pointer none, .bool false], .agg #[.int .i64 0, .int .i64 0, .int .i64 0], .slice none 0 0, .slice (some ⟨g1, 0, none⟩) (tot S) (tot S), .slice (some ⟨g2, 0, none⟩) (tot S) (tot S), .int .i64 m, .bool false] wr (Held ⟨#[]⟩ bf br S d m wr)) :=
          zzLeave_any ⟨#[]⟩ bf br bs g1 g2 S hd2 d m wr hsc hi1 hi2 HO.out hmt hS ht
        obtain ⟨k0, k1, k2, k3, k4, k5, k6, k7, k8⟩ := at9 (rangeAt_below HB.out HC3.out hl2)
        clear hsc hi1 hi2 HI1 HI2 HC3 HS3
        go_wp2_with (go_at_call 11; refine Calls.mono HLV.out ?_; rintro e w4 ⟨bs', hd4, O, rfl, hb4, hn4, hsc4, hob4⟩; (dsimp only [heldv]); have HB4 : Hid (Below wr.heap.size wr w4) := hb4; have HSC4 : Hid (ScAt w4 (some ⟨bs', 0, none⟩) (cutS d m S) hd4) := hsc4; have HN4 : Hid (m = 0 → O = none) := hn4; have HOB4 : Hid (0 < m → ∃ ob, O = some ⟨ob, 0, none⟩ ∧ w4.cell? ⟨ob, 0, none⟩ = some (.int .i64 0) ∧ w4.cell? ⟨ob, 1, none⟩ = some (.int .i64 0) ∧ w4.cell? ⟨ob, 2, none⟩ = some (.int .i64 (m : Int))) := hob4; clear hb4 hn4 hsc4 hob4 HLV)
        obtain ⟨W0, hW0⟩ : ∃ W0, W0 = w4.alloc (.cells #[.string ⟨#[]⟩, .string ⟨#[]⟩, .string ⟨#[]⟩, .map none, .slice (some ⟨bf, 0, none⟩) 0 0, .slice (some ⟨br, 0, none⟩) 0 0, .slice (some ⟨bs', 0, none⟩) S.length S.length, .pointer O, .bool false] 38) := ⟨_, rfl⟩
        have hz0 : W0.heap.size = w4.heap.size + 1 := by rw [hW0]; simp
        have HH0 : Hid (W0.rangeAt w4.heap.size 0 [.string ⟨#[]⟩, .string ⟨#[]⟩, .string ⟨#[]⟩, .map none, .slice (some ⟨bf, 0, none⟩) 0 0, .slice (some ⟨br, 0, none⟩) 0 0, .slice (some ⟨bs', 0, none⟩) S.length S.length, .pointer O, .bool false]) := by
          show W0.rangeAt w4.heap.size 0 [.string ⟨#[]⟩, .string ⟨#[]⟩, .string ⟨#[]⟩, .map none, .slice (some ⟨bf, 0, none⟩) 0 0, .slice (some ⟨br, 0, none⟩) 0 0, .slice (some ⟨bs', 0, none⟩) S.length S.length, .pointer O, .bool false]
          rw [hW0]
          refine range9 ?_ ?_ ?_ ?_ ?_ ?_ ?_ ?_ ?_ <;> go_simp
        have h40 : Below w4.heap.size w4 W0 := by rw [hW0]; exact (Below.refl _ _).alloc (Nat.le_refl _) _
        have HSC0 : Hid (ScAt W0 (some ⟨bs', 0, none⟩) (cutS d m S) hd4) := HSC4.out.below h40 (Nat.le_refl _)
        have hs4 := HB4.out.size
        have HBW0 : Hid (Below w.heap.size w W0) := HBr.out.trans ((HB4.out.mono HBr.out.size).trans (h40.mono (Nat.le_trans HBr.out.size hs4)))
        have HSO0 : Hid (ScAt W0 a S hd) := H.out.below HBW0.out (Nat.le_refl _)
        have HOB0 : Hid (0 < m → ∃ ob, O = some ⟨ob, 0, none⟩ ∧ W0.cell? ⟨ob, 0, none⟩ = some (.int .i64 0) ∧ W0.cell? ⟨ob, 1, none⟩ = some (.int .i64 0) ∧ W0.cell? ⟨ob, 2, none⟩ = some (.int .i64 (m : Int))) := fun h => by
          obtain ⟨ob, e, h0, h1, h2⟩ := HOB4.out h
          exact ⟨ob, e, by rw [h40.cell (lt_of_cell h0)]; exact h0, by rw [h40.cell (lt_of_cell h1)]; exact h1, by rw [h40.cell (lt_of_cell h2)]; exact h2⟩
        have HBX : Hid (Boxes (w4.heap.size + 1) W0 ((W0.alloc (.cells #[.string ⟨#[]⟩, .string ⟨#[]⟩, .string ⟨#[]⟩] 78)).alloc (.cells #[.string ⟨#[]⟩, .string ⟨#[]⟩, .string ⟨#[]⟩] 78)) ⟨⟨#[]⟩, ⟨#[]⟩, ⟨#[]⟩⟩ ⟨⟨#[]⟩, ⟨#[]⟩, ⟨#[]⟩⟩) := by
          show Boxes (w4.heap.size + 1) W0 ((W0.alloc (.cells #[.string ⟨#[]⟩, .string ⟨#[]⟩, .string ⟨#[]⟩] 78)).alloc (.cells #[.string ⟨#[]⟩, .string ⟨#[]⟩, .string ⟨#[]⟩] 78)) ⟨⟨#[]⟩, ⟨#[]⟩, ⟨#[]⟩⟩ ⟨⟨#[]⟩, ⟨#[]⟩, ⟨#[]⟩⟩
          rw [← hz0]
          exact boxes_new W0
        rw [← hW0]
        clear hW0 h40 HB4 HSC4 HOB4 HBr HB k0 k1 k2 k3 k4 k5 k6 k7 k8
        have HZ0 : Hid (W0.heap.size = w4.heap.size + 1) := hz0
        clear hz0
        go_loopw [11, 12, 13, 16, 17, 18] (fun v11 v12 v13 v16 v17 v18 wr => ∃ (rem kp gp s : Nat) (hk hg : Bool) (kr gr : Rf), s ≤ S.length ∧ v11 = .int .i64 rem ∧ v12 = .bool hk ∧ v13 = .bool hg ∧ v16 = .int .i64 kp ∧ v17 = .int .i64 gp ∧ v18 = .int .i64 s ∧
            rem + tot ((cutS d m S).take s) = tot (S.take s) ∧ Seen S d m hk hg kr gr kp gp ∧ Boxes (w4.heap.size + 1) W0 wr kr gr) (fun _ _ _ _ _ v18 _ => S.length - (intOf v18).toNat)
        case atStart => exact ⟨0, 0, 0, 0, false, false, _, _, by omega, rfl, rfl, rfl, rfl, rfl, rfl, by simp [tot], ⟨fun h => (by cases h), fun h => (by cases h)⟩, HBX.out⟩
        case round =>
          obtain ⟨rem, kp, gp, s, hk, hg, kr, gr, hsl, rfl, rfl, rfl, rfl, rfl, rfl, hrem, hSeen, hBox⟩ := hrel
          have HREM : Hid (rem + tot ((cutS d m S).take s) = tot (S.take s)) := hrem
          have HSEEN : Hid (Seen S d m hk hg kr gr kp gp) := hSeen
          have HBOX : Hid (Boxes (w4.heap.size + 1) W0 wr kr gr) := hBox
          have hrl : rem ≤ 1048576 := by have := tot_take_le S s; omega
          clear hrem hSeen hBox HBX
          obtain ⟨w5, rfl⟩ : ∃ x, x = wr := ⟨_, rfl⟩
          have HS5 : Hid (ScAt w5 a S hd) := HSO0.out.below HBOX.out.below (by have := HZ0.out; omega)
          have HC5 : Hid (ScAt w5 (some ⟨bs', 0, none⟩) (cutS d m S) hd4) := HSC0.out.below HBOX.out.below (by have := HZ0.out; omega)
          obtain ⟨t0, t1, t2, t3, t4, t5, t6, t7, t8⟩ := at9 (rangeAt_below HBOX.out.below HH0.out (by omega))
          by_cases hlt : s < S.length
          ·
            obtain ⟨x, hx⟩ : ∃ x, S[s]? = some x := ⟨S[s], List.getElem?_eq_getElem hlt⟩
            obtain ⟨⟨b, off, rfl, hbw, hrg⟩, hR⟩ := HS5.out s x hx
            obtain ⟨⟨b', off', e', hbw', hrg'⟩, hR'⟩ := HC5.out s _ (cutS_get hx)
            obtain ⟨rfl, rfl⟩ : bs' = b' ∧ 0 = off' := by simpa using e'
            rw [Nat.zero_add] at hrg'
            obtain ⟨c0, c1, c2⟩ := at3s hrg
            obtain ⟨e0, e1, e2⟩ := at3s hrg'
            simp only at e2 hR'
            have hm' : x.pres.length ≤ 1048576 := by
              have := tot_take hx
              have := tot_take_le S (s + 1)
              omega
            obtain ⟨hp, hhp⟩ : ∃ hp, hp = keepK (ksOf d m s) x.pres := ⟨_, rfl⟩
            rw [← hhp] at e2 hR'
            have hhl : hp.length ≤ 1048576 := by
              have := (keepK_sub (ksOf d m s) x.pres).length_le
              rw [← hhp] at this
              omega
            have HX : Hid (S[s]? = some x) := hx
            have HHP : Hid (hp = keepK (ksOf d m s) x.pres) := hhp
            obtain ⟨A1, hA1⟩ : ∃ A, (hd s).1 = A := ⟨_, rfl⟩
            obtain ⟨A2, hA2⟩ : ∃ A, (hd4 s).1 = A := ⟨_, rfl⟩
            have HR : Hid (RefsAt W0 A1 x.pres) := by rw [← hA1]; exact (HSO0.out s x hx).2
            have HR' : Hid (RefsAt W0 A2 hp) := by
              have := (HSC0.out s _ (cutS_get hx)).2
              rw [← hA2]
              rwa [← hhp] at this
            rw [hA1] at c2
            rw [hA2] at e2
            clear hrg hrg' hR hR' hhp hx c0 c1 e0 e1 e' hA1 hA2
            go_wp2
            go_loopw [11, 12, 13, 16, 17, 21, 22] (fun v11 v12 v13 v16 v17 v21 v22 w6 => ∃ (rem' kp' gp' p i : Nat) (hk' hg' : Bool) (kr' gr' : Rf), i ≤ x.pres.length ∧ v11 = .int .i64 rem' ∧ v12 = .bool hk' ∧ v13 = .bool hg' ∧ v16 = .int .i64 kp' ∧ v17 = .int .i64 gp' ∧ v21 = .int .i64 p ∧ v22 = .int .i64 i ∧
                rem' + p = rem + i ∧ Inner hp x.pres p i ∧ Seen S d m hk' hg' kr' gr' kp' gp' ∧ Boxes (w4.heap.size + 1) W0 w6 kr' gr') (fun _ _ _ _ _ _ v22 _ => x.pres.length - (intOf v22).toNat)
            case atStart =>
              refine ⟨rem, kp, gp, 0, 0, hk, hg, kr, gr, by omega, rfl, rfl, rfl, rfl, rfl, rfl, rfl, by omega, Inner.start (by rw [HHP.out]; exact keepK_sub _ _), HSEEN.out, HBOX.out⟩
            case round =>
              obtain ⟨rem', kp', gp', p, i, hk', hg', kr', gr', hil, rfl, rfl, rfl, rfl, rfl, rfl, rfl, hrem', hIn, hSeen', hBox'⟩ := hrel
              have HREM' : Hid (rem' + p = rem + i) := hrem'
              have HIN : Hid (Inner hp x.pres p i) := hIn
              have HSEEN' : Hid (Seen S d m hk' hg' kr' gr' kp' gp') := hSeen'
              have HBOX' : Hid (Boxes (w4.heap.size + 1) W0 wr kr' gr') := hBox'
              have hpi := hIn.le
              have hpl := hIn.pl
              have hrl' : rem' ≤ 3145728 := by omega
              clear hIn hSeen' hBox' hrem'
              by_cases hli : i < x.pres.length
              ·
                obtain ⟨o, ho⟩ : ∃ o, x.pres[i]? = some o := ⟨_, List.getElem?_eq_getElem hli⟩
                have hz6 := HBOX'.out.sz
                obtain ⟨b2, off2, rfl, hb2, hr2⟩ := (HR.out.below HBOX'.out.below (by have := HZ0.out; omega)) i o ho
                obtain ⟨q0, q1, q2⟩ := at3r hr2
                have HOi : Hid (x.pres[i]? = some o) := ho
                clear hr2 ho
                go_wp2_with fail
                go_cut [163] (fun v wc => ∃ bl : Bool, v = .bool bl ∧ Below wr.heap.size wr wc ∧ (bl = true → ∃ y, hp[p]? = some y ∧ same y o = true) ∧ (bl = false → ∀ y, hp[p]? = some y → same y o = false))
                case first =>
                  by_cases hlp : p < hp.length
                  · obtain ⟨y, hy⟩ : ∃ y, hp[p]? = some y := ⟨_, List.getElem?_eq_getElem hlp⟩
                    obtain ⟨b3, off3, rfl, hb3, hr3⟩ := (HR'.out.below HBOX'.out.below (by have := HZ0.out; omega)) p y hy
                    obtain ⟨r0, r1, r2⟩ := at3r hr3
                    have HY : Hid (hp[p]? = some y) := hy
                    clear hr3 hy
                    have HSK : Hid (∀ w', Below wr.heap.size wr w' → w'.cell? ⟨b2, off2 + i * 3, none⟩ = some (.string o.id) ∧ w'.cell? ⟨b2, off2 + i * 3 + 1, none⟩ = some (.string o.ty) ∧ w'.cell? ⟨b2, off2 + i * 3 + 2, none⟩ = some (.string o.name) ∧ w'.cell? ⟨b3, off3 + p * 3, none⟩ = some (.string y.id) ∧ w'.cell? ⟨b3, off3 + p * 3 + 1, none⟩ = some (.string y.ty) ∧ w'.cell? ⟨b3, off3 + p * 3 + 2, none⟩ = some (.string y.name)) := fun w' hb => by
                              have k : ∀ {a : Addr} {v : Value}, wr.cell? a = some v → w'.cell? a = some v := fun {a v} h => by rw [hb.cell (lt_of_cell h)]; exact h
                              exact ⟨k q0, k q1, k q2, k r0, k r1, k r2⟩
                    go_region_held3 (fun w' => w'.cell? ⟨b2, off2 + i * 3, none⟩ = some (.string o.id) ∧ w'.cell? ⟨b2, off2 + i * 3 + 1, none⟩ = some (.string o.ty) ∧ w'.cell? ⟨b2, off2 + i * 3 + 2, none⟩ = some (.string o.name) ∧ w'.cell? ⟨b3, off3 + p * 3, none⟩ = some (.string y.id) ∧ w'.cell? ⟨b3, off3 + p * 3 + 1, none⟩ = some (.string y.ty) ∧ w'.cell? ⟨b3, off3 + p * 3 + 2, none⟩ = some (.string y.name)) ((refine HSK.out _ ?_; go_grown)) ((go_at_call 19; refine Calls.mono (sameRef_any y o _) ?_; rintro e w7 ⟨rfl, hb7⟩; have hB7 := below_via (w := wr) (by go_grown) hb7; clear hb7))
                    go_wp2
                    go_meet
                    case rel => exact ⟨same y o, rfl, below_any' (by go_grown), fun h => ⟨y, HY.out, h⟩, fun h y' hy' => by rw [HY.out] at hy'; cases hy'; exact h⟩
                  · go_quiet (fail)
                    go_wp2
                    go_meet
                    case rel => exact ⟨false, rfl, below_drewN (Below.refl _ _) nq, fun h => (by cases h), fun _ y hy => absurd (List.getElem?_eq_some_iff.1 hy).1 hlp⟩
                case rest =>
                  obtain ⟨bl, rfl, hbc, hT, hF⟩ := hcut
                  have HBXc : Hid (Boxes (w4.heap.size + 1) W0 wc kr' gr') := HBOX'.out.later hbc
                  have hzc := hbc.size
                  rw [← hbc.cell (lt_of_cell q0)] at q0
                  rw [← hbc.cell (lt_of_cell q1)] at q1
                  rw [← hbc.cell (lt_of_cell q2)] at q2
                  clear hbc HBOX'
                  rcases bl with _ | _
                  ·
                    obtain ⟨w8, rfl⟩ : ∃ x, x = wc := ⟨_, rfl⟩
                    obtain ⟨hIn2, hcnt⟩ := HIN.out.miss HOi.out (hF rfl)
                    have HG2 : Hid (GoneV S d m o s) := gone_of HX.out (by rw [← HHP.out]; exact hcnt)
                    have HIN2 : Hid (Inner hp x.pres p (i + 1)) := hIn2
                    clear hIn2 hcnt hT hF
                    obtain ⟨m0, m1, m2⟩ := at3r HBXc.out.gb
                    simp only [Nat.zero_add] at m0 m1 m2
                    go_wp2_with fail
                    go_cut [196] (fun v wc => ∃ b2 : Bool, v = .bool b2 ∧ Below w8.heap.size w8 wc ∧ (b2 = false → hg' = true))
                    case first =>
                      rcases hg' with _ | _
                      · go_quiet (fail)
                        go_wp2
                        go_meet
                        case rel => exact ⟨true, rfl, below_drewN (Below.refl _ _) nq, fun h => (by cases h)⟩
                      · have HSK : Hid (∀ w', Below w8.heap.size w8 w' → w'.cell? ⟨b2, off2 + i * 3, none⟩ = some (.string o.id) ∧ w'.cell? ⟨b2, off2 + i * 3 + 1, none⟩ = some (.string o.ty) ∧ w'.cell? ⟨b2, off2 + i * 3 + 2, none⟩ = some (.string o.name) ∧ w'.cell? ⟨w4.heap.size + 1 + 1, 0, none⟩ = some (.string gr'.id) ∧ w'.cell? ⟨w4.heap.size + 1 + 1, 1, none⟩ = some (.string gr'.ty) ∧ w'.cell? ⟨w4.heap.size + 1 + 1, 2, none⟩ = some (.string gr'.name)) := fun w' hb => by
                              have k : ∀ {a : Addr} {v : Value}, w8.cell? a = some v → w'.cell? a = some v := fun {a v} h => by rw [hb.cell (lt_of_cell h)]; exact h
                              exact ⟨k q0, k q1, k q2, k m0, k m1, k m2⟩
                        go_region_held3 (fun w' => w'.cell? ⟨b2, off2 + i * 3, none⟩ = some (.string o.id) ∧ w'.cell? ⟨b2, off2 + i * 3 + 1, none⟩ = some (.string o.ty) ∧ w'.cell? ⟨b2, off2 + i * 3 + 2, none⟩ = some (.string o.name) ∧ w'.cell? ⟨w4.heap.size + 1 + 1, 0, none⟩ = some (.string gr'.id) ∧ w'.cell? ⟨w4.heap.size + 1 + 1, 1, none⟩ = some (.string gr'.ty) ∧ w'.cell? ⟨w4.heap.size + 1 + 1, 2, none⟩ = some (.string gr'.name)) ((refine HSK.out _ ?_; go_grown)) ((go_at_call 20; refine Calls.mono (tripleGreater_any gr' o gp' s _) ?_; rintro e w7 ⟨rfl, hb7⟩; have hB7 := below_via (w := w8) (by go_grown) hb7; clear hb7))
                        go_wp2
                        go_meet
                        case rel => exact ⟨_, rfl, below_any' (by go_grown), fun _ => (by simp)⟩
                    case rest =>
                      obtain ⟨bg, rfl, hbd, hK⟩ := hcut
                      have HBXd : Hid (Boxes (w4.heap.size + 1) W0 wc kr' gr') := HBXc.out.later hbd
                      have hzd := hbd.size
                      rw [← hbd.cell (lt_of_cell q0)] at q0
                      rw [← hbd.cell (lt_of_cell q1)] at q1
                      rw [← hbd.cell (lt_of_cell q2)] at q2
                      obtain ⟨⟨x0, j0⟩, ⟨x1, j1⟩, ⟨x2, j2⟩, f0, f1, f2⟩ := there3' HBXd.out.gf
                      clear hbd HBXc m0 m1 m2
                      rcases bg with _ | _
                      ·
                        have HK : Hid (hg' = true) := hK rfl
                        clear hK
                        go_wp2
                        go_round
                        case rel => exact ⟨rem' + 1, kp', gp', p, i + 1, hk', true, kr', gr', by omega, ie' (by omega), rfl, rfl, rfl, rfl, rfl, ie' (by omega), by have := HREM'.out; omega, HIN2.out, ⟨HSEEN'.out.kept, fun _ => HSEEN'.out.gone HK.out⟩, HBXd.out⟩
                        case measure => simp [intOf]; omega
                      ·
                        clear hK
                        go_wp2
                        go_round
                        case rel => exact ⟨rem' + 1, kp', s, p, i + 1, hk', true, kr', o, by omega, ie' (by omega), rfl, rfl, rfl, rfl, rfl, ie' (by omega), by have := HREM'.out; omega, HIN2.out, ⟨HSEEN'.out.kept, fun _ => HG2.out⟩, HBXd.out.putG o⟩
                        case measure => simp [intOf]; omega
                  ·
                    obtain ⟨w8, rfl⟩ : ∃ x, x = wc := ⟨_, rfl⟩
                    obtain ⟨y, hy, hsm⟩ := hT rfl
                    have HK2 : Hid (KeptV (cutS d m S) o s) := ⟨_, y, cutS_get HX.out, by simp only; rw [← HHP.out]; exact List.mem_of_getElem? hy, (same_iff y o).1 hsm⟩
                    have HIN2 : Hid (Inner hp x.pres (p + 1) (i + 1)) := HIN.out.hit hy HOi.out hsm
                    clear hy hsm hT hF
                    obtain ⟨m0, m1, m2⟩ := at3r HBXc.out.kb
                    simp only [Nat.zero_add] at m0 m1 m2
                    go_wp2_with fail
                    go_cut [177] (fun v wc => ∃ b2 : Bool, v = .bool b2 ∧ Below w8.heap.size w8 wc ∧ (b2 = false → hk' = true))
                    case first =>
                      rcases hk' with _ | _
                      · go_quiet (fail)
                        go_wp2
                        go_meet
                        case rel => exact ⟨true, rfl, below_drewN (Below.refl _ _) nq, fun h => (by cases h)⟩
                      · have HSK : Hid (∀ w', Below w8.heap.size w8 w' → w'.cell? ⟨b2, off2 + i * 3, none⟩ = some (.string o.id) ∧ w'.cell? ⟨b2, off2 + i * 3 + 1, none⟩ = some (.string o.ty) ∧ w'.cell? ⟨b2, off2 + i * 3 + 2, none⟩ = some (.string o.name) ∧ w'.cell? ⟨w4.heap.size + 1, 0, none⟩ = some (.string kr'.id) ∧ w'.cell? ⟨w4.heap.size + 1, 1, none⟩ = some (.string kr'.ty) ∧ w'.cell? ⟨w4.heap.size + 1, 2, none⟩ = some (.string kr'.name)) := fun w' hb => by
                              have k : ∀ {a : Addr} {v : Value}, w8.cell? a = some v → w'.cell? a = some v := fun {a v} h => by rw [hb.cell (lt_of_cell h)]; exact h
                              exact ⟨k q0, k q1, k q2, k m0, k m1, k m2⟩
                        go_region_held3 (fun w' => w'.cell? ⟨b2, off2 + i * 3, none⟩ = some (.string o.id) ∧ w'.cell? ⟨b2, off2 + i * 3 + 1, none⟩ = some (.string o.ty) ∧ w'.cell? ⟨b2, off2 + i * 3 + 2, none⟩ = some (.string o.name) ∧ w'.cell? ⟨w4.heap.size + 1, 0, none⟩ = some (.string kr'.id) ∧ w'.cell? ⟨w4.heap.size + 1, 1, none⟩ = some (.string kr'.ty) ∧ w'.cell? ⟨w4.heap.size + 1, 2, none⟩ = some (.string kr'.name)) ((refine HSK.out _ ?_; go_grown)) ((go_at_call 20; refine Calls.mono (tripleGreater_any o kr' s kp' _) ?_; rintro e w7 ⟨rfl, hb7⟩; have hB7 := below_via (w := w8) (by go_grown) hb7; clear hb7))
                        go_wp2
                        go_meet
                        case rel => exact ⟨_, rfl, below_any' (by go_grown), fun _ => (by simp)⟩
                    case rest =>
                      obtain ⟨bg, rfl, hbd, hK⟩ := hcut
                      have HBXd : Hid (Boxes (w4.heap.size + 1) W0 wc kr' gr') := HBXc.out.later hbd
                      have hzd := hbd.size
                      rw [← hbd.cell (lt_of_cell q0)] at q0
                      rw [← hbd.cell (lt_of_cell q1)] at q1
                      rw [← hbd.cell (lt_of_cell q2)] at q2
                      obtain ⟨⟨x0, j0⟩, ⟨x1, j1⟩, ⟨x2, j2⟩, f0, f1, f2⟩ := there3' HBXd.out.kf
                      clear hbd HBXc m0 m1 m2
                      rcases bg with _ | _
                      ·
                        have HK : Hid (hk' = true) := hK rfl
                        clear hK
                        go_wp2
                        go_round
                        case rel => exact ⟨rem', kp', gp', p + 1, i + 1, true, hg', kr', gr', by omega, rfl, rfl, rfl, rfl, rfl, ie' (by omega), ie' (by omega), by have := HREM'.out; omega, HIN2.out, ⟨fun _ => HSEEN'.out.kept HK.out, HSEEN'.out.gone⟩, HBXd.out⟩
                        case measure => simp [intOf]; omega
                      ·
                        clear hK
                        go_wp2
                        go_round
                        case rel => exact ⟨rem', s, gp', p + 1, i + 1, true, hg', o, gr', by omega, rfl, rfl, rfl, rfl, rfl, ie' (by omega), ie' (by omega), by have := HREM'.out; omega, HIN2.out, ⟨fun _ => HK2.out, HSEEN'.out.gone⟩, HBXd.out.putK o⟩
                        case measure => simp [intOf]; omega
              ·
                have hei : i = x.pres.length := by omega
                subst hei
                have hpe := HIN.out.done
                subst hpe
                go_wp2
                go_round
                case rel =>
                  refine ⟨rem', kp', gp', s + 1, hk', hg', kr', gr', by omega, rfl, rfl, rfl, rfl, rfl, ie' (by omega), ?_, HSEEN'.out, HBOX'.out⟩
                  rw [tot_take HX.out, tot_take (cutS_get HX.out)]
                  have h1 := HREM.out
                  have h2 := HREM'.out
                  rw [HHP.out] at h2
                  simp only
                  omega
                case measure => simp [intOf]; omega
          ·
            have hes : s = S.length := by omega
            subst hes
            have hrm : rem = m := by
              have h1 := HREM.out
              have h2 := HO.out.tot_all hmt
              rw [List.take_length, List.take_of_length_le (by rw [cutS_length]; exact Nat.le_refl _)] at h1
              omega
            subst hrm
            have HBF : Hid (∀ W, Below w5.heap.size w5 W → Below w.heap.size w W) := fun W hW => (HBW0.out.trans (HBOX.out.below.mono (by have := HZ0.out; have := HBW0.out.size; omega))).trans (hW.mono (by have := HBOX.out.sz; have := HZ0.out; have := HBW0.out.size; omega))
            obtain ⟨m0, m1, m2⟩ := at3r HBOX.out.kb
            obtain ⟨j0, j1, j2⟩ := at3r HBOX.out.gb
            simp only [Nat.zero_add] at m0 m1 m2 j0 j1 j2
            by_cases hr0 : rem = 0
            · have hON := HN4.out hr0
              subst hr0 hON
              rcases hk with _ | _
              · go_wp2
                go_ret
                exact ⟨rfl, HBF.out _ (Below.refl _ _)⟩
              · rcases hg with _ | _
                · go_wp2
                  go_ret
                  exact ⟨rfl, HBF.out _ (Below.refl _ _)⟩
                · have hkg := HO.out.kept_gone (HSEEN.out.kept rfl) (HSEEN.out.gone rfl)
                  have HTG : Hid (∀ W, Calls Try.prog 20 #[.agg #[.string kr.id, .string kr.ty, .string kr.name], .int .i64 kp, .agg #[.string gr.id, .string gr.ty, .string gr.name], .int .i64 gp] W fun e w' => e = .returned (.bool false) ∧ Below W.heap.size W w') := fun W => by
                    have := tripleGreater_any kr gr kp gp W
                    rwa [hkg] at this
                  clear hkg
                  go_wp2_with (go_at_call 20; refine Calls.mono (HTG.out _) ?_; rintro e w9 ⟨rfl, hb9⟩; have h9 := bcell' hb9; obtain ⟨hcl9, hfr9⟩ := h9; have HB9 : Hid _ := hb9; clear hb9; have t7' := hcl9 w4.heap.size 7 (lt_of_cell t7); rw [t7] at t7')
                  go_ret
                  exact ⟨rfl, HBF.out _ HB9.out⟩
            · have hpos : 0 < rem := by omega
              obtain ⟨ob, hOe, ho0, ho1, ho2⟩ := HOB0.out hpos
              subst hOe
              have hkk : ∀ {a : Addr} {v : Value}, W0.cell? a = some v → w5.cell? a = some v := fun {a v} h => by rw [HBOX.out.below.cell (by have := lt_of_cell h; have := HZ0.out; omega)]; exact h
              replace ho0 := hkk ho0
              replace ho1 := hkk ho1
              replace ho2 := hkk ho2
              clear hkk
              have hnz : ((rem : Int) = 0) = False := by simp; omega
              have hnz' : ((rem : Int) == 0) = false := by simp; omega
              rcases hk with _ | _
              · go_wp2
                go_ret
                exact ⟨rfl, HBF.out _ (Below.refl _ _)⟩
              · rcases hg with _ | _
                · go_wp2
                  go_ret
                  exact ⟨rfl, HBF.out _ (Below.refl _ _)⟩
                · have hkg := HO.out.kept_gone (HSEEN.out.kept rfl) (HSEEN.out.gone rfl)
                  have HTG : Hid (∀ W, Calls Try.prog 20 #[.agg #[.string kr.id, .string kr.ty, .string kr.name], .int .i64 kp, .agg #[.string gr.id, .string gr.ty, .string gr.name], .int .i64 gp] W fun e w' => e = .returned (.bool false) ∧ Below W.heap.size W w') := fun W => by
                    have := tripleGreater_any kr gr kp gp W
                    rwa [hkg] at this
                  clear hkg
                  go_wp2_with (go_at_call 20; refine Calls.mono (HTG.out _) ?_; rintro e w9 ⟨rfl, hb9⟩; have h9 := bcell' hb9; obtain ⟨hcl9, hfr9⟩ := h9; have HB9 : Hid _ := hb9; clear hb9; have t7' := hcl9 w4.heap.size 7 (lt_of_cell t7); rw [t7] at t7'; have p0 := hcl9 ob 0 (lt_of_cell ho0); rw [ho0] at p0; have p1 := hcl9 ob 1 (lt_of_cell ho1); rw [ho1] at p1; have p2 := hcl9 ob 2 (lt_of_cell ho2); rw [ho2] at p2)
                  go_ret
                  exact ⟨rfl, HBF.out _ HB9.out⟩
end Go.Proofs.Qxb6615139a
