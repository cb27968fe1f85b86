/-
  buildContext("", nil, nil, scenes): a context whose scene is a new copy of the scenes.
-/
import Derived.Test.Qxb6615139aMake
import Derived.Test.Qxb6615139aCount
import Derived.Deep.RegionHeld3
import Derived.Deep.DrawnRows
import Derived.Handy
import Derived.Deep.DeepCutAuto
namespace Go.Proofs.Qxb6615139a
open Go.RowKit

/-- What a context's nine cells are: nothing but the scene. -/
def ctx (e0 : ByteArray) (bf br bs n : Nat) : List Value :=
  [.string e0, .string ⟨#[]⟩, .string ⟨#[]⟩, .map none, .slice (some ⟨bf, 0, none⟩) 0 0, .slice (some ⟨br, 0, none⟩) 0 0, .slice (some ⟨bs, 0, none⟩) n n, .pointer none, .bool false]

theorem isSome_set' {w : World} {a q : Addr} {u : Value} (h : (w.cell? q).isSome = true) : ((w.setCell a u).cell? q).isSome = true := by
  obtain ⟨x, hx⟩ := Option.isSome_iff_exists.1 h
  obtain ⟨y, hy⟩ := cell?_setCell_some (p := a) (x := u) hx
  rw [hy]; rfl

theorem below_any' {B : Nat} {w w' : World} (h : Below B w w') : Below B w w' := h

/-- k scenes are laid. -/
structure Laid (e0 : ByteArray) (B : Nat) (S : List Sc) (w wr : World) (k : Nat) (hd : Nat → Option Addr × Nat) : Prop where
  below : Below B w wr
  sz : B + 5 ≤ wr.heap.size
  box : wr.rangeAt (B + 1) 0 (ctx e0 (B + 3) (B + 2) (B + 4) S.length)
  res : wr.there B 0 9
  row : wr.there (B + 4) 0 (S.length * 3)
  got : ∀ i s, i < k → S[i]? = some s → wr.rangeAt (B + 4) (i * 3) (sc s (hd i)) ∧ (∃ b, (hd i).1 = some ⟨b, 0, none⟩ ∧ B + 4 < b) ∧ RefsAt wr (hd i).1 s.pres

theorem Laid.later {e0 : ByteArray} {B : Nat} {S : List Sc} {w wr w' : World} {k : Nat} {hd : Nat → Option Addr × Nat} (h : Laid e0 B S w wr k hd) (hb : Below wr.heap.size wr w') : Laid e0 B S w w' k hd := by
  have hs := h.sz
  have hz := hb.size
  refine ⟨h.below.trans (hb.mono (by omega)), by omega, rangeAt_below hb h.box (by omega), there_below hb h.res (by omega), there_below hb h.row (by omega), fun i s hi he => ?_⟩
  obtain ⟨h1, h2, h3⟩ := h.got i s hi he
  exact ⟨rangeAt_below hb h1 (by omega), h2, h3.below hb (Nat.le_refl _)⟩

theorem refs_setCells {w : World} {b : Nat} {R : List Rf} (h : RefsAt w (some ⟨b, 0, none⟩) R) {blk : Nat} (hne : b ≠ blk) (o : Nat) (vs : List Value) : RefsAt (w.setCells blk o vs) (some ⟨b, 0, none⟩) R := fun j r hr => by
  obtain ⟨b', off, e, h1, h2⟩ := h j r hr
  have e' := Option.some.inj e
  simp only [Addr.mk.injEq] at e'
  obtain ⟨rfl, rfl, -⟩ := e'
  exact ⟨b, 0, rfl, Nat.lt_of_lt_of_le h1 (((Kp.refl blk w).setCells o vs).size), World.rangeAt_setCells_apart h2 _ _ _ (.inl hne)⟩

theorem Laid.put {e0 : ByteArray} {B : Nat} {S : List Sc} {w wr : World} {k : Nat} {hd : Nat → Option Addr × Nat} (h : Laid e0 B S w wr k hd) {s : Sc} (hs : S[k]? = some s) {b m : Nat} (hb : B + 4 < b) (hr : RefsAt wr (some ⟨b, 0, none⟩) s.pres) :
    Laid e0 B S w (wr.setCells (B + 4) (k * 3) (sc s (some ⟨b, 0, none⟩, m))) (k + 1) (fun i => if i = k then (some ⟨b, 0, none⟩, m) else hd i) := by
  have hk : Kp (B + 4) wr (wr.setCells (B + 4) (k * 3) (sc s (some ⟨b, 0, none⟩, m))) := (Kp.refl _ _).setCells _ _
  have hlt : k < S.length := (List.getElem?_eq_some_iff.1 hs).1
  have hz := hk.size
  have hsz := h.sz
  refine ⟨h.below.trans (hk.below (by omega) (by omega)), by omega, World.rangeAt_setCells_apart h.box _ _ _ (.inl (by omega)), World.there_setCells h.res _ _ _, World.there_setCells h.row _ _ _, fun i s' hi he => ?_⟩
  by_cases e : i = k
  · subst e
    obtain rfl : s = s' := Option.some.inj (hs.symm.trans he)
    simp only [if_true]
    refine ⟨World.rangeAt_setCells_same _ _ _ _ fun t ht => ?_, ⟨b, rfl, hb⟩, refs_setCells hr (by omega) _ _⟩
    rw [sc_length] at ht
    have := h.row (i * 3 + t) (by omega)
    rwa [Nat.zero_add] at this
  · simp only [if_neg e]
    obtain ⟨h1, ⟨b', h2, h3⟩, h4⟩ := h.got i s' (by omega) he
    refine ⟨World.rangeAt_setCells_apart h1 _ _ _ (.inr (by rw [sc_length, sc_length]; omega)), ⟨b', h2, h3⟩, ?_⟩
    rw [h2] at h4 ⊢
    exact refs_setCells h4 (by omega) _ _

theorem Laid.setRes {e0 : ByteArray} {B : Nat} {S : List Sc} {w wr : World} {k : Nat} {hd : Nat → Option Addr × Nat} (h : Laid e0 B S w wr k hd) (vs : List Value) : Laid e0 B S w (wr.setCells B 0 vs) k hd := by
  have hk : Kp B wr (wr.setCells B 0 vs) := (Kp.refl _ _).setCells _ _
  have hz := hk.size
  have hsz := h.sz
  refine ⟨h.below.trans (hk.below (by omega) (by omega)), by omega, World.rangeAt_setCells_apart h.box _ _ _ (.inl (by omega)), World.there_setCells h.res _ _ _, World.there_setCells h.row _ _ _, fun i s' hi he => ?_⟩
  obtain ⟨h1, ⟨b', h2, h3⟩, h4⟩ := h.got i s' hi he
  refine ⟨World.rangeAt_setCells_apart h1 _ _ _ (.inl (by omega)), ⟨b', h2, h3⟩, ?_⟩
  rw [h2] at h4 ⊢
  exact refs_setCells h4 (by omega) _ _

/-- j references are copied into block B0, new since w. -/
structure Filled (B0 : Nat) (R : List Rf) (w wr : World) (j : Nat) : Prop where
  below : Below w.heap.size w wr
  ge : w.heap.size ≤ B0
  sz : B0 < wr.heap.size
  row : wr.there B0 0 (R.length * 3)
  got : ∀ i r, i < j → R[i]? = some r → wr.rangeAt B0 (i * 3) (rc r)

theorem Filled.alloc {B0 : Nat} {R : List Rf} {w wr : World} {j : Nat} (h : Filled B0 R w wr j) (o : Obj) : Filled B0 R w (wr.alloc o) j :=
  ⟨h.below.alloc h.below.size o, h.ge, by have := h.sz; simp; omega, World.there_alloc h.row o, fun i r hi he => World.rangeAt_alloc (h.got i r hi he) o⟩

theorem Filled.put {B0 : Nat} {R : List Rf} {w wr : World} {j : Nat} (h : Filled B0 R w wr j) {r : Rf} (hr : R[j]? = some r) : Filled B0 R w (wr.setCells B0 (j * 3) (rc r)) (j + 1) := by
  have hk : Kp B0 wr (wr.setCells B0 (j * 3) (rc r)) := (Kp.refl _ _).setCells _ _
  have hlt : j < R.length := (List.getElem?_eq_some_iff.1 hr).1
  refine ⟨h.below.trans (hk.below h.ge h.below.size), h.ge, Nat.lt_of_lt_of_le h.sz hk.size, World.there_setCells h.row _ _ _, fun i r' hi he => ?_⟩
  by_cases e : i = j
  · subst e
    obtain rfl : r = r' := Option.some.inj (hr.symm.trans he)
    refine World.rangeAt_setCells_same _ _ _ _ fun t ht => ?_
    rw [rc_length] at ht
    have := h.row (i * 3 + t) (by omega)
    rwa [Nat.zero_add] at this
  · exact World.rangeAt_setCells_apart (h.got i r' (by omega) he) _ _ _ (.inr (by rw [rc_length, rc_length]; omega))

theorem Filled.refs {B0 : Nat} {R : List Rf} {w wr : World} (h : Filled B0 R w wr R.length) : RefsAt wr (some ⟨B0, 0, none⟩) R := fun j r hr =>
  ⟨B0, 0, rfl, h.sz, by rw [Nat.zero_add]; exact h.got j r (List.getElem?_eq_some_iff.1 hr).1 hr⟩

theorem there3 {w : World} {b n i : Nat} (h : w.there b 0 (n * 3)) (hi : i < n) :
    (∃ x, w.cell? ⟨b, i * 3, none⟩ = some x) ∧ (∃ x, w.cell? ⟨b, i * 3 + 1, none⟩ = some x) ∧ (∃ x, w.cell? ⟨b, i * 3 + 2, none⟩ = some x) ∧
    w.frozen? ⟨b, i * 3, none⟩ = false ∧ w.frozen? ⟨b, i * 3 + 1, none⟩ = false ∧ w.frozen? ⟨b, i * 3 + 2, none⟩ = false := by
  have h0 := h (i * 3) (by omega)
  have h1 := h (i * 3 + 1) (by omega)
  have h2 := h (i * 3 + 2) (by omega)
  rw [Nat.zero_add] at h0 h1 h2
  exact ⟨Option.isSome_iff_exists.1 h0.1, Option.isSome_iff_exists.1 h1.1, Option.isSome_iff_exists.1 h2.1, h0.2, h1.2, h2.2⟩

theorem there_new (w : World) (c : Array Value) (t : TypeId) : (w.alloc (.cells c t)).there w.heap.size 0 c.size := fun j hj => by
  have hb : (w.alloc (.cells c t)).heap[w.heap.size]? = some (.cells c t (0, 0)) := heap_alloc_new w _
  generalize w.alloc (.cells c t) = W at hb ⊢
  refine ⟨?_, by unfold World.frozen?; rw [hb]; simp⟩
  rw [cell_of_row W _ _ _ _ _ hb, Array.getElem?_eq_getElem (by omega)]
  rfl

theorem there_at {W : World} {ob : Obj} {b n : Nat} (h : ∀ w : World, (w.alloc ob).there w.heap.size 0 n) (e : W.heap.size = b) : (W.alloc ob).there b 0 n := e ▸ h W

theorem there9 {w : World} {b : Nat} (h : w.there b 0 9) : (∃ x, w.cell? ⟨b, 0, none⟩ = some x) ∧ (∃ x, w.cell? ⟨b, 1, none⟩ = some x) ∧ (∃ x, w.cell? ⟨b, 2, none⟩ = some x) ∧ (∃ x, w.cell? ⟨b, 3, none⟩ = some x) ∧ (∃ x, w.cell? ⟨b, 4, none⟩ = some x) ∧
    (∃ x, w.cell? ⟨b, 5, none⟩ = some x) ∧ (∃ x, w.cell? ⟨b, 6, none⟩ = some x) ∧ (∃ x, w.cell? ⟨b, 7, none⟩ = some x) ∧ (∃ x, w.cell? ⟨b, 8, none⟩ = some x) ∧
    w.frozen? ⟨b, 0, none⟩ = false ∧ w.frozen? ⟨b, 1, none⟩ = false ∧ w.frozen? ⟨b, 2, none⟩ = false ∧ w.frozen? ⟨b, 3, none⟩ = false ∧ w.frozen? ⟨b, 4, none⟩ = false ∧ w.frozen? ⟨b, 5, none⟩ = false ∧ w.frozen? ⟨b, 6, none⟩ = false ∧ w.frozen? ⟨b, 7, none⟩ = false ∧ w.frozen? ⟨b, 8, none⟩ = false := by
  have e : ∀ j, j < 9 → ∃ x, w.cell? ⟨b, j, none⟩ = some x := fun j hj => by have := (h j hj).1; rw [Nat.zero_add] at this; exact Option.isSome_iff_exists.1 this
  have f : ∀ j, j < 9 → w.frozen? ⟨b, j, none⟩ = false := fun j hj => by have := (h j hj).2; rw [Nat.zero_add] at this; exact this
  exact ⟨e 0 (by omega), e 1 (by omega), e 2 (by omega), e 3 (by omega), e 4 (by omega), e 5 (by omega), e 6 (by omega), e 7 (by omega), e 8 (by omega), f 0 (by omega), f 1 (by omega), f 2 (by omega), f 3 (by omega), f 4 (by omega), f 5 (by omega), f 6 (by omega), f 7 (by omega), f 8 (by omega)⟩

theorem range9 {w : World} {b : Nat} {v0 v1 v2 v3 v4 v5 v6 v7 v8 : Value} (h0 : w.cell? ⟨b, 0, none⟩ = some v0) (h1 : w.cell? ⟨b, 1, none⟩ = some v1) (h2 : w.cell? ⟨b, 2, none⟩ = some v2) (h3 : w.cell? ⟨b, 3, none⟩ = some v3)
    (h4 : w.cell? ⟨b, 4, none⟩ = some v4) (h5 : w.cell? ⟨b, 5, none⟩ = some v5) (h6 : w.cell? ⟨b, 6, none⟩ = some v6) (h7 : w.cell? ⟨b, 7, none⟩ = some v7) (h8 : w.cell? ⟨b, 8, none⟩ = some v8) : w.rangeAt b 0 [v0, v1, v2, v3, v4, v5, v6, v7, v8] := fun j v hv => by
  match j, hv with
  | 0, hv => rw [← hv]; exact h0
  | 1, hv => rw [← hv]; exact h1
  | 2, hv => rw [← hv]; exact h2
  | 3, hv => rw [← hv]; exact h3
  | 4, hv => rw [← hv]; exact h4
  | 5, hv => rw [← hv]; exact h5
  | 6, hv => rw [← hv]; exact h6
  | 7, hv => rw [← hv]; exact h7
  | 8, hv => rw [← hv]; exact h8
  | _ + 9, hv => simp at hv

theorem at9 {w : World} {b : Nat} {v0 v1 v2 v3 v4 v5 v6 v7 v8 : Value} (h : w.rangeAt b 0 [v0, v1, v2, v3, v4, v5, v6, v7, v8]) : w.cell? ⟨b, 0, none⟩ = some v0 ∧ w.cell? ⟨b, 1, none⟩ = some v1 ∧ w.cell? ⟨b, 2, none⟩ = some v2 ∧ w.cell? ⟨b, 3, none⟩ = some v3 ∧
    w.cell? ⟨b, 4, none⟩ = some v4 ∧ w.cell? ⟨b, 5, none⟩ = some v5 ∧ w.cell? ⟨b, 6, none⟩ = some v6 ∧ w.cell? ⟨b, 7, none⟩ = some v7 ∧ w.cell? ⟨b, 8, none⟩ = some v8 :=
  ⟨h 0 _ rfl, h 1 _ rfl, h 2 _ rfl, h 3 _ rfl, h 4 _ rfl, h 5 _ rfl, h 6 _ rfl, h 7 _ rfl, h 8 _ rfl⟩

set_option maxHeartbeats 1000000 in
set_option maxRecDepth 100000 in
theorem buildContext_any (e0 : ByteArray) (a : Option Addr) (cap : Nat) (S : List Sc) (hd : Nat → Option Addr × Nat) (w : World) (h : ScAt w a S hd) (hS : S.length ≤ 1048576) (ht : tot S ≤ 1048576) :
    Calls Try.prog 9 #[.string e0, .slice none 0 0, .slice none 0 0, .slice a S.length cap] w fun e w' => ∃ hd', e = .returned (.agg (ctx e0 (w.heap.size + 3) (w.heap.size + 2) (w.heap.size + 4) S.length).toArray) ∧ Laid e0 w.heap.size S w w' S.length hd' := by
  have H : Hid (ScAt w a S hd) := h
  clear h
  have m1 := mk34
  have m2 := mk33
  go_enter Try.func9, Try.ntmps9
  go_wp2
  go_loop [10] (fun vi => vi = .int .i64 0) (fun _ => 0)
  case atStart => rfl
  case round =>
    subst hrel
    go_wp2
    go_loop [11] (fun vi => vi = .int .i64 0) (fun _ => 0)
    case atStart => rfl
    case round =>
      subst hrel
      obtain ⟨ob, hob, hth⟩ := make_run (P := Try.prog) 35 65 3 56 und35 i65 S.length (by omega) (by omega)
      have HT : Hid _ := hth
      clear hth m1 m2
      go_wp2
      go_loopw [12] (fun vi wr => ∃ k hd', k ≤ S.length ∧ vi = .int .i64 (k : Nat) ∧ Laid e0 w.heap.size S w wr k hd') (fun vi _ => S.length - (intOf vi).toNat)
      case atStart =>
        refine ⟨0, fun _ => (none, 0), by omega, rfl, ?_⟩
        refine ⟨below_any' (by go_grown), by simp, ?_, ?_, ?_, fun i s hi => absurd hi (by omega)⟩
        · refine range9 ?_ ?_ ?_ ?_ ?_ ?_ ?_ ?_ ?_ <;> go_simp
        · exact World.there_alloc (World.there_alloc (World.there_alloc (World.there_alloc (there_new w _ 38) _) _) _) _
        · exact there_at HT.out (by simp)
      case round =>
        obtain ⟨k, hd', hk, rfl, hL⟩ := hrel
        have HL : Hid (Laid e0 w.heap.size S w wr k hd') := hL
        clear hL hob HT
        obtain ⟨w1, rfl⟩ : ∃ x, x = wr := ⟨_, rfl⟩
        by_cases hlt : k < S.length
        · obtain ⟨s, hs⟩ : ∃ s, S[k]? = some s := ⟨S[k], List.getElem?_eq_getElem hlt⟩
          obtain ⟨⟨b, off, rfl, hbw, hr⟩, hR⟩ := H.out k s hs
          obtain ⟨c0, c1, c2⟩ := at3s (rangeAt_below HL.out.below hr hbw)
          have hm : s.pres.length ≤ 1048576 := by
            have := tot_take hs
            have := tot_take_le S (k + 1)
            omega
          have HR : Hid (RefsAt w (hd k).1 s.pres) := hR
          have HS : Hid (S[k]? = some s) := hs
          obtain ⟨ob, hob, hth⟩ := make_run (P := Try.prog) 63 54 3 48 und63 i54 s.pres.length (by omega) (by omega)
          have HT : Hid _ := hth
          clear hth hr hR hs
          go_wp2
          go_loopw [14] (fun vj w2 => ∃ j, j ≤ s.pres.length ∧ vj = .int .i64 (j : Nat) ∧ Filled w1.heap.size s.pres w1 w2 j) (fun vj _ => s.pres.length - (intOf vj).toNat)
          case atStart => exact ⟨0, by omega, rfl, (Below.refl _ _).alloc (Nat.le_refl _) _, Nat.le_refl _, by simp, HT.out w1, fun i r hi => absurd hi (by omega)⟩
          case round =>
            obtain ⟨j, hj, rfl, hF⟩ := hrel
            have HF : Hid (Filled w1.heap.size s.pres w1 wr j) := hF
            have hz1 := hF.below.size
            have hz2 := hF.sz
            have hz3 := HL.out.sz
            have hz4 := HL.out.below.size
            have hcl := (bcell' hF.below).1
            rw [← hcl _ _ (by omega)] at c0 c1 c2
            clear hF hcl
            by_cases hlj : j < s.pres.length
            · obtain ⟨r, hrj⟩ : ∃ r, s.pres[j]? = some r := ⟨s.pres[j], List.getElem?_eq_getElem hlj⟩
              obtain ⟨b2, off2, hA, hbw2, hr2⟩ := HR.out j r hrj
              obtain ⟨d0, d1, d2⟩ := at3r (rangeAt_below HF.out.below (rangeAt_below HL.out.below hr2 hbw2) (by omega))
              obtain ⟨⟨x0, g0⟩, ⟨x1, g1⟩, ⟨x2, g2⟩, f0, f1, f2⟩ := there3 HF.out.row hlj
              have hne : b2 < wr.heap.size := by omega
              have HRJ : Hid (s.pres[j]? = some r) := hrj
              rw [hA] at c2
              clear hrj hr2 hA
              go_wp2
              go_round
              case rel =>
                refine ⟨j + 1, by omega, ie' (by omega), ?_⟩
                exact (HF.out.put HRJ.out).alloc _
              case measure => simp [intOf]; omega
            · have HF' : Hid (Filled w1.heap.size s.pres w1 wr s.pres.length) := by
                have : j = s.pres.length := by omega
                rw [← this]; exact HF
              have hL2 := HL.out.later HF.out.below
              have HL2 : Hid (Laid e0 w.heap.size S w wr k hd') := hL2
              obtain ⟨-, -, -, -, -, -, k6, -, -⟩ := at9 hL2.box
              obtain ⟨⟨x0, g0⟩, ⟨x1, g1⟩, ⟨x2, g2⟩, f0, f1, f2⟩ := there3 hL2.row hlt
              have hbne : b ≠ w.heap.size + 4 := by omega
              have hbne' : w.heap.size + 4 ≠ b := by omega
              clear hL2 HL HF
              go_wp2_with fail
              go_region_held3 (fun w' => w'.cell? ⟨w.heap.size + 1, 6, none⟩ = some (.slice (some ⟨w.heap.size + 4, 0, none⟩) S.length S.length) ∧ w'.cell? ⟨b, off + k * 3, none⟩ = some (.string s.locId) ∧ w'.cell? ⟨b, off + k * 3 + 1, none⟩ = some (.string s.locName) ∧
                (w'.cell? ⟨w.heap.size + 4, k * 3, none⟩).isSome = true ∧ (w'.cell? ⟨w.heap.size + 4, k * 3 + 1, none⟩).isSome = true ∧ (w'.cell? ⟨w.heap.size + 4, k * 3 + 2, none⟩).isSome = true ∧
                w'.frozen? ⟨w.heap.size + 4, k * 3, none⟩ = false ∧ w'.frozen? ⟨w.heap.size + 4, k * 3 + 1, none⟩ = false ∧ w'.frozen? ⟨w.heap.size + 4, k * 3 + 2, none⟩ = false) (refine ⟨by go_keep, by go_keep, by go_keep, ?_, ?_, ?_, by go_keep, by go_keep, by go_keep⟩ <;> first | (go_keep; done) | (rw [World.cell?_drew]; exact isSome_set' (isSome_set' (isSome_set' (by simp [*]))))) (fail)
              go_wp2
              go_round
              case rel =>
                exact ⟨k + 1, fun i => if i = k then (some ⟨w1.heap.size, 0, none⟩, s.pres.length) else hd' i, by omega, ie' (by omega), (HL2.out.put HS.out (m := s.pres.length) (b := w1.heap.size) (by omega) HF'.out.refs).later (Below.refl _ _).drew⟩
              case measure => simp [intOf]; omega
        · have HL' : Hid (Laid e0 w.heap.size S w w1 S.length hd') := by
            have : k = S.length := by omega
            rw [← this]; exact HL
          have hz := HL.out.sz
          obtain ⟨k0, k1, k2, k3, k4, k5, k6, k7, k8⟩ := at9 HL.out.box
          obtain ⟨⟨y0, n0⟩, ⟨y1, n1⟩, ⟨y2, n2⟩, ⟨y3, n3⟩, ⟨y4, n4⟩, ⟨y5, n5⟩, ⟨y6, n6⟩, ⟨y7, n7⟩, ⟨y8, n8⟩, z0, z1, z2, z3, z4, z5, z6, z7, z8⟩ := there9 HL.out.res
          clear HL
          go_wp2
          have hL9 := HL'.out.setRes (ctx e0 (w.heap.size + 3) (w.heap.size + 2) (w.heap.size + 4) S.length)
          have hW := World.rangeAt_setCells_same w1 w.heap.size 0 (ctx e0 (w.heap.size + 3) (w.heap.size + 2) (w.heap.size + 4) S.length) HL'.out.res
          change bodyPost _ _ _ _ _ (w1.setCells w.heap.size 0 (ctx e0 (w.heap.size + 3) (w.heap.size + 2) (w.heap.size + 4) S.length))
          generalize w1.setCells w.heap.size 0 (ctx e0 (w.heap.size + 3) (w.heap.size + 2) (w.heap.size + 4) S.length) = W9 at hL9 hW ⊢
          obtain ⟨k0, k1, k2, k3, k4, k5, k6, k7, k8⟩ := at9 hW
          refine bodyPost_ret (v := .agg (ctx e0 (w.heap.size + 3) (w.heap.size + 2) (w.heap.size + 4) S.length).toArray) (by simp [results, Try.results9, go_sem, k0, k1, k2, k3, k4, k5, k6, k7, k8, ctx]) rfl ?_
          exact ⟨hd', rfl, hL9⟩
end Go.Proofs.Qxb6615139a
