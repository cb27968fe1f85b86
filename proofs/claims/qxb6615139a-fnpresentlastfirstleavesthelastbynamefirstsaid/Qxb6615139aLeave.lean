/-
  leave.
-/
import Derived.Test.Qxb6615139aPlain
namespace Go.Proofs.Qxb6615139a
open Go.RowKit Go.Maps

/-- the fourteen cells of a contextCut -/
def cutc (e0 : ByteArray) (bf br bs n : Nat) (po : Value) : List Value := ctx e0 bf br bs n ++ [.int .i64 0, .int .i64 0, .int .i64 0, .slice none 0 0, po]

theorem placesOf_none' (p : Option Addr) (c : Nat) (w : World) :
    Calls Try.prog 25 #[.slice p 0 c] w fun e w' => ∃ b, e = .returned (.map (some b)) ∧ Below w.heap.size w w' ∧ SetAt w' b 0 [] :=
  (placesOf_none p c w).mono fun _ _ h => ⟨w.heap.size, h⟩

/-- the nine cells of what is held -/
def heldv (e0 : ByteArray) (bf br : Nat) (sc : Value) (O : Option Addr) : List Value :=
  [.string e0, .string ⟨#[]⟩, .string ⟨#[]⟩, .map none, .slice (some ⟨bf, 0, none⟩) 0 0, .slice (some ⟨br, 0, none⟩) 0 0, sc, .pointer O, .bool false]

/-- behind the statement that builds held -/
def Heldc (e0 : ByteArray) (bf br : Nat) (sc : Value) (O : Option Addr) (W : World) (s10 : Value) (wc : World) : Prop := ∃ Hb, s10 = .pointer (some ⟨Hb, 0, none⟩) ∧ W.heap.size ≤ Hb ∧ Below W.heap.size W wc ∧ wc.rangeAt Hb 0 (heldv e0 bf br sc O) ∧ wc.there Hb 0 9

/-- what leave answers; it stays so wherever a world agrees on the blocks below lo and on those from w's size on -/
def Left (lo : Nat) (e0 : ByteArray) (bf br : Nat) (S : List Sc) (d : Nat → Nat × Nat) (n : Nat) (w : World) (e : Ending) (w' : World) : Prop := ∃ bs' hd' O, e = .returned (.agg (heldv e0 bf br (.slice (some ⟨bs', 0, none⟩) S.length S.length) O).toArray) ∧ Below w.heap.size w w' ∧ (n = 0 → O = none) ∧
  ∀ W9 : World, w'.heap.size ≤ W9.heap.size → (∀ b, b < w'.heap.size → (b < lo ∨ w.heap.size ≤ b) → W9.heap[b]? = w'.heap[b]?) →
    ScAt W9 (some ⟨bs', 0, none⟩) (cutS d n S) hd' ∧ (0 < n → ∃ ob, O = some ⟨ob, 0, none⟩ ∧ W9.cell? ⟨ob, 0, none⟩ = some (.int .i64 0) ∧ W9.cell? ⟨ob, 1, none⟩ = some (.int .i64 0) ∧ W9.cell? ⟨ob, 2, none⟩ = some (.int .i64 (n : Int)))

/-- references that lie below lo or above hi -/
def RefsX (lo hi : Nat) (w : World) (a : Option Addr) (R : List Rf) : Prop := ∀ j r, R[j]? = some r → ∃ b off, a = some ⟨b, off, none⟩ ∧ (b < lo ∨ hi < b) ∧ b < w.heap.size ∧ w.rangeAt b (off + j * 3) (rc r)

theorem RefsX.refs {lo hi : Nat} {w : World} {a : Option Addr} {R : List Rf} (h : RefsX lo hi w a R) : RefsAt w a R := fun j r hr => by
  obtain ⟨b, off, e, -, h1, h2⟩ := h j r hr
  exact ⟨b, off, e, h1, h2⟩

theorem range_block {w w' : World} {b o : Nat} {cs : List Value} (e : w'.heap[b]? = w.heap[b]?) (h : w.rangeAt b o cs) : w'.rangeAt b o cs :=
  fun j v hv => by rw [World.cell?_of_block (w := w) (a := ⟨b, o + j, none⟩) e]; exact h j v hv
theorem there_block {w w' : World} {b o n : Nat} (e : w'.heap[b]? = w.heap[b]?) (h : w.there b o n) : w'.there b o n :=
  fun j hj => by rw [World.cell?_of_block (w := w) (a := ⟨b, o + j, none⟩) e, World.frozen?_of_block (w := w) (a := ⟨b, o + j, none⟩) e]; exact h j hj

theorem RefsX.keep {lo hi : Nat} {w w' : World} {a : Option Addr} {R : List Rf} (h : RefsX lo hi w a R) (hz : w.heap.size ≤ w'.heap.size) (hag : ∀ b, b < w.heap.size → (b < lo ∨ hi < b) → w'.heap[b]? = w.heap[b]?) : RefsX lo hi w' a R := fun j r hr => by
  obtain ⟨b, off, e, h0, h1, h2⟩ := h j r hr
  exact ⟨b, off, e, h0, by omega, range_block (hag b h1 h0) h2⟩

theorem ScAt.blocks {w w' : World} {a : Option Addr} {S : List Sc} {hd : Nat → Option Addr × Nat} (h : ScAt w a S hd) (hz : w.heap.size ≤ w'.heap.size) (hag : ∀ b, b < w.heap.size → w'.heap[b]? = w.heap[b]?) : ScAt w' a S hd := fun i s hs => by
  obtain ⟨⟨b, off, e, h1, h2⟩, h3⟩ := h i s hs
  refine ⟨⟨b, off, e, by omega, range_block (hag b h1) h2⟩, fun j r hr => ?_⟩
  obtain ⟨b, off, e, h1, h2⟩ := h3 j r hr
  exact ⟨b, off, e, by omega, range_block (hag b h1) h2⟩

/-- k scenes are laid into the new row, what is gone left out -/
structure Dropped (lo Nb : Nat) (d : Nat → Nat × Nat) (n : Nat) (S : List Sc) (W wr : World) (k : Nat) (hd' : Nat → Option Addr × Nat) : Prop where
  kp : Kp Nb W wr
  lt : Nb < W.heap.size
  row : wr.there Nb 0 (S.length * 3)
  got : ∀ i s, i < k → S[i]? = some s → wr.rangeAt Nb (i * 3) (sc ⟨s.locId, s.locName, keepK (ksOf d n i) s.pres⟩ (hd' i)) ∧ RefsX lo Nb wr (hd' i).1 (keepK (ksOf d n i) s.pres)

theorem Dropped.later {lo Nb : Nat} {d : Nat → Nat × Nat} {n : Nat} {S : List Sc} {W wr w' : World} {k : Nat} {hd' : Nat → Option Addr × Nat} (h : Dropped lo Nb d n S W wr k hd') (hb : Below wr.heap.size wr w') : Dropped lo Nb d n S W w' k hd' := by
  have h1 := h.lt
  have h2 := h.kp.size
  refine ⟨h.kp.trans (Kp.of_below hb), h.lt, there_below hb h.row (by omega), fun i s hi he => ?_⟩
  obtain ⟨h3, h4⟩ := h.got i s hi he
  exact ⟨rangeAt_below hb h3 (by omega), h4.keep hb.size fun b hb' _ => hb.block b hb'⟩

theorem Dropped.put {lo Nb : Nat} {d : Nat → Nat × Nat} {n : Nat} {S : List Sc} {W wr : World} {k : Nat} {hd' : Nat → Option Addr × Nat} (h : Dropped lo Nb d n S W wr k hd') {s : Sc} (hs : S[k]? = some s) (hlo : lo ≤ Nb) {a : Option Addr} {m : Nat} (hr : RefsX lo Nb wr a (keepK (ksOf d n k) s.pres)) :
    Dropped lo Nb d n S W (wr.setCells Nb (k * 3) (sc ⟨s.locId, s.locName, keepK (ksOf d n k) s.pres⟩ (a, m))) (k + 1) (fun i => if i = k then (a, m) else hd' i) := by
  have hk : Kp Nb wr (wr.setCells Nb (k * 3) (sc ⟨s.locId, s.locName, keepK (ksOf d n k) s.pres⟩ (a, m))) := (Kp.refl _ _).setCells _ _
  have hlt : k < S.length := (List.getElem?_eq_some_iff.1 hs).1
  refine ⟨h.kp.trans hk, h.lt, World.there_setCells h.row _ _ _, fun i s' hi he => ?_⟩
  by_cases e : i = k
  · subst e
    obtain rfl : s = s' := Option.some.inj (hs.symm.trans he)
    simp only [if_true]
    refine ⟨World.rangeAt_setCells_same _ _ _ _ fun t ht => ?_, hr.keep hk.size fun b hb hx => hk.block b hb (by omega)⟩
    rw [sc_length] at ht
    have := h.row (i * 3 + t) (by omega)
    rwa [Nat.zero_add] at this
  · simp only [if_neg e]
    obtain ⟨h1, h4⟩ := h.got i s' (by omega) he
    exact ⟨World.rangeAt_setCells_apart h1 _ _ _ (.inr (by rw [sc_length, sc_length]; omega)), h4.keep hk.size fun b hb hx => hk.block b hb (by omega)⟩

theorem Dropped.sc {lo Nb : Nat} {d : Nat → Nat × Nat} {n : Nat} {S : List Sc} {W wr W9 : World} {hd' : Nat → Option Addr × Nat} (h : Dropped lo Nb d n S W wr S.length hd') (hz : wr.heap.size ≤ W9.heap.size) (hag : ∀ b, b < wr.heap.size → (b < lo ∨ Nb ≤ b) → W9.heap[b]? = wr.heap[b]?) :
    ScAt W9 (some ⟨Nb, 0, none⟩) (cutS d n S) hd' := fun i s' hs' => by
  have hl : i < S.length := by rw [← cutS_length d n S]; exact (List.getElem?_eq_some_iff.1 hs').1
  have hs : S[i]? = some S[i] := List.getElem?_eq_getElem hl
  rw [cutS_get hs] at hs'
  obtain rfl := Option.some.inj hs'
  obtain ⟨h1, h2⟩ := h.got i _ hl hs
  have h3 := h.lt
  have h4 := h.kp.size
  refine ⟨⟨Nb, 0, rfl, by omega, ?_⟩, (h2.keep hz fun b hb hx => hag b hb (by omega)).refs⟩
  rw [Nat.zero_add]
  exact range_block (hag Nb (by omega) (by omega)) h1

/-- without, as leave calls it -/
theorem without_x {lo Nb : Nat} {p : Option Addr} {c : Nat} {R : List Rf} {K : List Nat} {mv : Value} {w0 w : World} (h0 : RefsAt w0 p R) (hlo : w0.heap.size ≤ lo) (hR : RefsAt w p R) (hM : MapIs w mv K) (hK : K.length ≤ R.length) (hm : R.length ≤ 1048576) (hN : Nb < w.heap.size) :
    Calls Try.prog 27 #[.slice p R.length c, mv] w fun e w' => ∃ p' c', e = .returned (.slice p' (keepK K R).length c') ∧ Below w.heap.size w w' ∧ RefsX lo Nb w' p' (keepK K R) := by
  refine (without_any p c R K mv w hR hM hK hm).mono ?_
  rintro e w' ⟨p', c', rfl, hb, hr, hp⟩
  refine ⟨p', c', rfl, hb, fun j r hj => ?_⟩
  obtain ⟨b, off, e, h1, h2⟩ := hr j r hj
  refine ⟨b, off, e, ?_, h1, h2⟩
  rcases hp with hp | hp | ⟨g, hp, hg⟩
  · have hx : r ∈ keepK K R := List.mem_of_getElem? hj
    obtain ⟨j', hj', -⟩ := keepK_mem hx
    obtain ⟨b', off', e', h1', -⟩ := h0 j' r hj'
    rw [← hp, e] at e'
    have := Option.some.inj e'
    simp only [Addr.mk.injEq] at this
    omega
  · rw [hp] at e; exact absurd e (by simp)
  · rw [hp] at e
    have := Option.some.inj e
    simp only [Addr.mk.injEq] at this
    omega


set_option maxHeartbeats 4000000 in
set_option maxRecDepth 100000 in
theorem leave_any (e0 : ByteArray) (bf br bs Bk go : Nat) (S : List Sc) (hd : Nat → Option Addr × Nat) (d : Nat → Nat × Nat) (n : Nat) (w0 w : World) (h : ScAt w0 (some ⟨bs, 0, none⟩) S hd) (hw0 : Below w0.heap.size w0 w) (hk : w.rangeAt Bk 0 (cutc e0 bf br bs S.length (.slice (some ⟨go, 0, none⟩) (tot S) (tot S))))
    (hgo : go < w.heap.size) (hor : ∀ k, k < tot S → w.rangeAt go (k * 2) (pc (d k))) (hO : Order S d) (hnt : n ≤ tot S) (hS : S.length ≤ 1048576) (ht : tot S ≤ 1048576) :
    Calls Try.prog 21 #[.pointer (some ⟨Bk, 0, none⟩), .int .i64 n, .bool false] w (Left w0.heap.size e0 bf br S d n w) := by
  have hn : n ≤ 1048576 := by omega
  have HOR : Hid (∀ k, k < tot S → w.rangeAt go (k * 2) (pc (d k))) := hor
  have HO : Hid (Order S d) := hO
  clear hor hO
  have H : Hid (ScAt w0 (some ⟨bs, 0, none⟩) S hd) := h
  have HW0 : Hid (Below w0.heap.size w0 w) := hw0
  have hl0 := hw0.size
  clear h hw0
  have k0 : w.cell? ⟨Bk, 0, none⟩ = some (.string e0) := hk 0 _ rfl
  have k1 : w.cell? ⟨Bk, 1, none⟩ = some (.string ⟨#[]⟩) := hk 1 _ rfl
  have k2 : w.cell? ⟨Bk, 2, none⟩ = some (.string ⟨#[]⟩) := hk 2 _ rfl
  have k3 : w.cell? ⟨Bk, 3, none⟩ = some (.map none) := hk 3 _ rfl
  have k4 : w.cell? ⟨Bk, 4, none⟩ = some (.slice (some ⟨bf, 0, none⟩) 0 0) := hk 4 _ rfl
  have k5 : w.cell? ⟨Bk, 5, none⟩ = some (.slice (some ⟨br, 0, none⟩) 0 0) := hk 5 _ rfl
  have k6 : w.cell? ⟨Bk, 6, none⟩ = some (.slice (some ⟨bs, 0, none⟩) S.length S.length) := hk 6 _ rfl
  have k7 : w.cell? ⟨Bk, 7, none⟩ = some (.pointer none) := hk 7 _ rfl
  have k8 : w.cell? ⟨Bk, 8, none⟩ = some (.bool false) := hk 8 _ rfl
  have k9 : w.cell? ⟨Bk, 9, none⟩ = some (.int .i64 0) := hk 9 _ rfl
  have k10 : w.cell? ⟨Bk, 10, none⟩ = some (.int .i64 0) := hk 10 _ rfl
  have k11 : w.cell? ⟨Bk, 11, none⟩ = some (.int .i64 0) := hk 11 _ rfl
  have k12 : w.cell? ⟨Bk, 12, none⟩ = some (.slice none 0 0) := hk 12 _ rfl
  have k13 : w.cell? ⟨Bk, 13, none⟩ = some (.slice (some ⟨go, 0, none⟩) (tot S) (tot S)) := hk 13 _ rfl
  have lk := lt_of_cell k0
  simp only at lk
  have HK : Hid _ := hk
  clear hk
  have HLeft : Hid (∀ W, Below w.heap.size w W → Calls Try.prog 23 #[.pointer (some ⟨Bk, 0, none⟩), .int .i64 n] W fun e w' => e = .returned (.agg #[.int .i64 0, .int .i64 0, .int .i64 (n : Int)]) ∧ Below W.heap.size W w') := fun W hW =>
    left_any Bk br 0 bf 0 n W (by rw [hW.cell lk]; exact k4) (by rw [hW.cell lk]; exact k5) (by rw [hW.cell lk]; exact k9) (by rw [hW.cell lk]; exact k10) (by rw [hW.cell lk]; exact k11) hn
  go_enter Try.func21, Try.ntmps21
  go_wp2_with (go_at_call 23; refine Calls.mono (HLeft.out _ (below_any' (by go_grown))) ?_; rintro e w2 ⟨rfl, hb2⟩; obtain ⟨hcl2, hfr2⟩ := bcell' hb2; have hz2 := hb2.size; have HB2 : Hid _ := hb2; clear hb2; (try simp only [World.size_alloc] at hcl2 hfr2 hz2); have hy2 : w.heap.size + 1 < w2.heap.size := hz2; have hx2 : w.heap.size < w2.heap.size := Nat.lt_of_succ_lt hy2; have hw2 : Bk < w2.heap.size := Nat.lt_trans lk hx2)
  have hne2 : w2.heap.size + 1 ≠ Bk := by omega
  have hwz : IntKind.i64.wrap 0 = 0 := by rw [IntKind.wrap_i64]; omega
  have hwn : IntKind.i64.wrap (n : Int) = (n : Int) := by rw [IntKind.wrap_i64]; omega
  have b9 : w2.cell? ⟨Bk, 9, none⟩ = some (.int .i64 0) := by rw [hcl2 _ _ (by omega)]; go_simp
  have b10 : w2.cell? ⟨Bk, 10, none⟩ = some (.int .i64 0) := by rw [hcl2 _ _ (by omega)]; go_simp
  have b11 : w2.cell? ⟨Bk, 11, none⟩ = some (.int .i64 0) := by rw [hcl2 _ _ (by omega)]; go_simp
  have b12 : w2.cell? ⟨Bk, 12, none⟩ = some (.slice none 0 0) := by rw [hcl2 _ _ (by omega)]; go_simp
  have b13 : w2.cell? ⟨Bk, 13, none⟩ = some (.slice (some ⟨go, 0, none⟩) (tot S) (tot S)) := by rw [hcl2 _ _ (by omega)]; go_simp
  have m0 : w2.cell? ⟨w.heap.size + 1, 0, none⟩ = some (.string e0) := by rw [hcl2 _ _ (by omega)]; go_simp
  have m1 : w2.cell? ⟨w.heap.size + 1, 1, none⟩ = some (.string ⟨#[]⟩) := by rw [hcl2 _ _ (by omega)]; go_simp
  have m2 : w2.cell? ⟨w.heap.size + 1, 2, none⟩ = some (.string ⟨#[]⟩) := by rw [hcl2 _ _ (by omega)]; go_simp
  have m3 : w2.cell? ⟨w.heap.size + 1, 3, none⟩ = some (.map none) := by rw [hcl2 _ _ (by omega)]; go_simp
  have m4 : w2.cell? ⟨w.heap.size + 1, 4, none⟩ = some (.slice (some ⟨bf, 0, none⟩) 0 0) := by rw [hcl2 _ _ (by omega)]; go_simp
  have m5 : w2.cell? ⟨w.heap.size + 1, 5, none⟩ = some (.slice (some ⟨br, 0, none⟩) 0 0) := by rw [hcl2 _ _ (by omega)]; go_simp
  have m6 : w2.cell? ⟨w.heap.size + 1, 6, none⟩ = some (.slice (some ⟨bs, 0, none⟩) S.length S.length) := by rw [hcl2 _ _ (by omega)]; go_simp
  have m7 : w2.cell? ⟨w.heap.size + 1, 7, none⟩ = some (.pointer none) := by rw [hcl2 _ _ (by omega)]; go_simp
  have m8 : w2.cell? ⟨w.heap.size + 1, 8, none⟩ = some (.bool false) := by rw [hcl2 _ _ (by omega)]; go_simp
  clear k0 k1 k2 k3 k4 k5 k6 k7 k8 k9 k10 k11 k12 k13
  go_region_held3 (fun w' => w'.cell? ⟨w2.heap.size + 1, 0, none⟩ = some (.int .i64 0) ∧ w'.frozen? ⟨w2.heap.size + 1, 0, none⟩ = false ∧ w'.cell? ⟨Bk, 9, none⟩ = some (.int .i64 0)) (go_keep) (fail)
  go_wp2_with fail
  go_region_held3 (fun w' => w'.cell? ⟨w2.heap.size + 1, 1, none⟩ = some (.int .i64 0) ∧ w'.frozen? ⟨w2.heap.size + 1, 1, none⟩ = false ∧ w'.cell? ⟨Bk, 10, none⟩ = some (.int .i64 0)) (go_keep) (fail)
  go_wp2_with fail
  go_region_held3 (fun w' => w'.cell? ⟨w2.heap.size + 1, 2, none⟩ = some (.int .i64 (n : Int)) ∧ w'.frozen? ⟨w2.heap.size + 1, 2, none⟩ = false ∧ w'.cell? ⟨Bk, 11, none⟩ = some (.int .i64 0)) (go_keep) (fail)
  go_wp2_with fail
  obtain ⟨W3, hW3⟩ : ∃ W3, W3 = ((w2.alloc (.cells #[.int .i64 0, .int .i64 0, .int .i64 (n : Int)] 41)).alloc (.cells #[.int .i64 0, .int .i64 0, .int .i64 (n : Int)] 41)).drew.drew.drew := ⟨_, rfl⟩
  have c0 : W3.cell? ⟨w.heap.size + 1, 0, none⟩ = some (.string e0) := by rw [hW3]; go_simp
  have c1 : W3.cell? ⟨w.heap.size + 1, 1, none⟩ = some (.string ⟨#[]⟩) := by rw [hW3]; go_simp
  have c2 : W3.cell? ⟨w.heap.size + 1, 2, none⟩ = some (.string ⟨#[]⟩) := by rw [hW3]; go_simp
  have c3 : W3.cell? ⟨w.heap.size + 1, 3, none⟩ = some (.map none) := by rw [hW3]; go_simp
  have c4 : W3.cell? ⟨w.heap.size + 1, 4, none⟩ = some (.slice (some ⟨bf, 0, none⟩) 0 0) := by rw [hW3]; go_simp
  have c5 : W3.cell? ⟨w.heap.size + 1, 5, none⟩ = some (.slice (some ⟨br, 0, none⟩) 0 0) := by rw [hW3]; go_simp
  have c6 : W3.cell? ⟨w.heap.size + 1, 6, none⟩ = some (.slice (some ⟨bs, 0, none⟩) S.length S.length) := by rw [hW3]; go_simp
  have c7 : W3.cell? ⟨w.heap.size + 1, 7, none⟩ = some (.pointer none) := by rw [hW3]; go_simp
  have c8 : W3.cell? ⟨w.heap.size + 1, 8, none⟩ = some (.bool false) := by rw [hW3]; go_simp
  have b12' : W3.cell? ⟨Bk, 12, none⟩ = some (.slice none 0 0) := by rw [hW3]; go_simp
  have b13' : W3.cell? ⟨Bk, 13, none⟩ = some (.slice (some ⟨go, 0, none⟩) (tot S) (tot S)) := by rw [hW3]; go_simp
  have g0 : W3.cell? ⟨w2.heap.size + 1, 0, none⟩ = some (.int .i64 0) := by rw [hW3]; go_simp
  have o0 : W3.cell? ⟨w2.heap.size, 0, none⟩ = some (.int .i64 0) := by rw [hW3]; go_simp
  have g1 : W3.cell? ⟨w2.heap.size + 1, 1, none⟩ = some (.int .i64 0) := by rw [hW3]; go_simp
  have o1 : W3.cell? ⟨w2.heap.size, 1, none⟩ = some (.int .i64 0) := by rw [hW3]; go_simp
  have g2 : W3.cell? ⟨w2.heap.size + 1, 2, none⟩ = some (.int .i64 (n : Int)) := by rw [hW3]; go_simp
  have o2 : W3.cell? ⟨w2.heap.size, 2, none⟩ = some (.int .i64 (n : Int)) := by rw [hW3]; go_simp
  have hzW : W3.heap.size = w2.heap.size + 2 := by rw [hW3]; simp
  have hB3 : Below w2.heap.size w2 W3 := by rw [hW3]; exact below_any' (by go_grown)
  rw [← hW3]
  clear hW3 b9 b10 b11 b12 b13 m0 m1 m2 m3 m4 m5 m6 m7 m8 hne2 hwz hwn
  have HS : Hid (∀ w', Below W3.heap.size W3 w' → w'.cell? ⟨w.heap.size + 1, 0, none⟩ = some (.string e0) ∧ w'.cell? ⟨w.heap.size + 1, 1, none⟩ = some (.string ⟨#[]⟩) ∧ w'.cell? ⟨w.heap.size + 1, 2, none⟩ = some (.string ⟨#[]⟩) ∧ w'.cell? ⟨w.heap.size + 1, 3, none⟩ = some (.map none) ∧ w'.cell? ⟨w.heap.size + 1, 4, none⟩ = some (.slice (some ⟨bf, 0, none⟩) 0 0) ∧ w'.cell? ⟨w.heap.size + 1, 5, none⟩ = some (.slice (some ⟨br, 0, none⟩) 0 0) ∧ w'.cell? ⟨w.heap.size + 1, 6, none⟩ = some (.slice (some ⟨bs, 0, none⟩) S.length S.length) ∧ w'.cell? ⟨Bk, 12, none⟩ = some (.slice none 0 0) ∧ w'.cell? ⟨w2.heap.size + 1, 0, none⟩ = some (.int .i64 0) ∧ w'.cell? ⟨w2.heap.size + 1, 1, none⟩ = some (.int .i64 0)) := fun w' hb => by
    have k : ∀ {a : Addr} {v : Value}, W3.cell? a = some v → w'.cell? a = some v := fun {a v} h => by rw [hb.cell (lt_of_cell h)]; exact h
    exact ⟨k c0, k c1, k c2, k c3, k c4, k c5, k c6, k b12', k g0, k g1⟩
  have hl1 : w.heap.size + 1 < W3.heap.size := by omega
  have hl2 : Bk < W3.heap.size := by omega
  have hl3 : w2.heap.size + 1 < W3.heap.size := by omega
  have hl4 : w2.heap.size < W3.heap.size := by omega
  have HZ : Hid (W3.heap.size = w2.heap.size + 2) := hzW
  clear hzW
  go_cut [10] (fun s10 wc => Heldc e0 bf br (.slice (some ⟨bs, 0, none⟩) S.length S.length) (some ⟨w2.heap.size, 0, none⟩) W3 s10 wc)
  case first =>
    go_region_held3 (fun w' => w'.cell? ⟨w.heap.size + 1, 0, none⟩ = some (.string e0) ∧ w'.cell? ⟨w.heap.size + 1, 1, none⟩ = some (.string ⟨#[]⟩) ∧ w'.cell? ⟨w.heap.size + 1, 2, none⟩ = some (.string ⟨#[]⟩) ∧ w'.cell? ⟨w.heap.size + 1, 3, none⟩ = some (.map none) ∧ w'.cell? ⟨w.heap.size + 1, 4, none⟩ = some (.slice (some ⟨bf, 0, none⟩) 0 0) ∧ w'.cell? ⟨w.heap.size + 1, 5, none⟩ = some (.slice (some ⟨br, 0, none⟩) 0 0) ∧ w'.cell? ⟨w.heap.size + 1, 6, none⟩ = some (.slice (some ⟨bs, 0, none⟩) S.length S.length) ∧ w'.cell? ⟨Bk, 12, none⟩ = some (.slice none 0 0) ∧ w'.cell? ⟨w2.heap.size + 1, 0, none⟩ = some (.int .i64 0) ∧ w'.cell? ⟨w2.heap.size + 1, 1, none⟩ = some (.int .i64 0))
      ((refine HS.out _ ?_; go_grown))
      (first
        | (go_at_call 25; refine Calls.mono (placesOf_none' _ _ _) ?_; rintro e w5 ⟨b5, rfl, hb5, hs5⟩; obtain ⟨hcl5, hfr5⟩ := bcell' hb5; have hz5 := hb5.size; have hB5 := below_via (w := W3) (by go_grown) hb5; have hzz5 : W3.heap.size ≤ w5.heap.size := hB5.size; have hs5l := hs5.lt; have HS5 : Hid _ := hs5; clear hb5 hs5)
        | (go_at_call 24; refine Calls.mono (withoutFact_none _ _ _ _ 0 _ (by first | exact HS5.out | exact SetAt.of_block HS5.out (((Below.refl _ _).alloc (Nat.le_refl _) _).block _ hs5l))) ?_; rintro e w6 ⟨rfl, rfl⟩))
    all_goals go_wp2
    all_goals
      go_meet
      case rel =>
        first
          | exact ⟨_, rfl, hzz5, below_any' (by go_grown), by refine range9 ?_ ?_ ?_ ?_ ?_ ?_ ?_ ?_ ?_ <;> go_simp, there_new _ _ 38⟩
          | (have ht5 : w5.there W3.heap.size 0 9 := fun j hj => by
              rw [Nat.zero_add, hcl5 _ _ (by simp), hfr5 _ _ (by simp)]
              have := there_new W3 #[.string ⟨#[]⟩, .string ⟨#[]⟩, .string ⟨#[]⟩, .map none, .slice none 0 0, .slice none 0 0, .slice none 0 0, .pointer none, .bool false] 38 j hj
              rwa [Nat.zero_add] at this
             exact ⟨_, rfl, Nat.le_refl _, below_any' (by go_grown), World.rangeAt_setCells_same w5 W3.heap.size 0 (heldv e0 bf br (.slice (some ⟨bs, 0, none⟩) S.length S.length) (some ⟨w2.heap.size, 0, none⟩)) ht5, World.there_setCells ht5 W3.heap.size 0 (heldv e0 bf br (.slice (some ⟨bs, 0, none⟩) S.length S.length) (some ⟨w2.heap.size, 0, none⟩))⟩)
  case rest =>
    obtain ⟨Hb, rfl, hHb, hbc, hrg, hth⟩ := hcut
    have k : ∀ {a : Addr} {v : Value}, W3.cell? a = some v → wc.cell? a = some v := fun {a v} h => by rw [hbc.cell (lt_of_cell h)]; exact h
    replace c6 := k c6
    replace b13' := k b13'
    replace g2 := k g2
    replace o0 := k o0
    replace o1 := k o1
    replace o2 := k o2
    have hRt : wc.there w.heap.size 0 9 := there_below hbc (there_below hB3 (there_below HB2.out (World.there_alloc (there_new w #[.string ⟨#[]⟩, .string ⟨#[]⟩, .string ⟨#[]⟩, .map none, .slice none 0 0, .slice none 0 0, .slice none 0 0, .pointer none, .bool false] 38) _) (by simp only [World.size_alloc]; omega)) (by omega)) (by omega)
    have HRT : Hid (wc.there w.heap.size 0 9) := hRt
    have hBw : Below w.heap.size w wc := ((((Below.refl _ _).alloc (Nat.le_refl _) _).alloc (by simp) _).trans (HB2.out.mono (by simp only [World.size_alloc]; omega))).trans ((hB3.mono (by omega)).trans (hbc.mono (by omega)))
    have HBW : Hid (Below w.heap.size w wc) := hBw
    have hzc := hbc.size
    obtain ⟨p0, p1, p2, p3, p4, p5, p6, p7, p8⟩ := at9 hrg
    obtain ⟨⟨y0, n0⟩, ⟨y1, n1⟩, ⟨y2, n2⟩, ⟨y3, n3⟩, ⟨y4, n4⟩, ⟨y5, n5⟩, ⟨y6, n6⟩, ⟨y7, n7⟩, ⟨y8, n8⟩, z0, z1, z2, z3, z4, z5, z6, z7, z8⟩ := there9 hRt
    obtain ⟨-, -, -, -, -, -, -, -, -, f0, f1, f2, f3, f4, f5, f6, f7, f8⟩ := there9 hth
    have HTH : Hid (wc.there Hb 0 9) := hth
    have HRG : Hid _ := hrg
    have hne1 : Hb ≠ w.heap.size := by omega
    have hne2 : w.heap.size ≠ Hb := by omega
    clear c0 c1 c2 c3 c4 c5 c7 c8 b12' g0 g1 hB3 HB2 hbc hBw hRt k hcl2 hfr2 hz2 hth hrg HS HLeft
    by_cases hn0 : n = 0
    · subst hn0
      go_wp2
      have hk1 : Kp Hb wc (wc.setCells Hb 7 [.pointer none, .bool false]) := (Kp.refl _ _).setCells _ _
      have hr1 : (wc.setCells Hb 7 [.pointer none, .bool false]).there w.heap.size 0 9 := World.there_setCells HRT.out _ _ _
      have hk2 : Kp w.heap.size (wc.setCells Hb 7 [.pointer none, .bool false]) ((wc.setCells Hb 7 [.pointer none, .bool false]).setCells w.heap.size 0 (heldv e0 bf br (.slice (some ⟨bs, 0, none⟩) S.length S.length) none)) := (Kp.refl _ _).setCells _ _
      have hW := World.rangeAt_setCells_same (wc.setCells Hb 7 [.pointer none, .bool false]) w.heap.size 0 (heldv e0 bf br (.slice (some ⟨bs, 0, none⟩) S.length S.length) none) hr1
      have hB9 : Below w.heap.size w ((wc.setCells Hb 7 [.pointer none, .bool false]).setCells w.heap.size 0 (heldv e0 bf br (.slice (some ⟨bs, 0, none⟩) S.length S.length) none)) :=
        (HBW.out.trans (hk1.below (by omega) (by omega))).trans (hk2.below (Nat.le_refl _) (by have := hk1.size; omega))
      change bodyPost _ _ _ _ _ ((wc.setCells Hb 7 [.pointer none, .bool false]).setCells w.heap.size 0 (heldv e0 bf br (.slice (some ⟨bs, 0, none⟩) S.length S.length) none))
      generalize (wc.setCells Hb 7 [.pointer none, .bool false]).setCells w.heap.size 0 (heldv e0 bf br (.slice (some ⟨bs, 0, none⟩) S.length S.length) none) = W9 at hB9 hW ⊢
      clear hk2
      obtain ⟨k0, k1, k2, k3, k4, k5, k6, k7, k8⟩ := at9 hW
      refine bodyPost_ret (v := .agg (heldv e0 bf br (.slice (some ⟨bs, 0, none⟩) S.length S.length) none).toArray) (by simp [results, Try.results21, go_sem, k0, k1, k2, k3, k4, k5, k6, k7, k8, heldv]) rfl ?_
      refine ⟨bs, hd, none, rfl, hB9, fun _ => rfl, fun W9' h1 h2 => ⟨?_, fun h => absurd h (by omega)⟩⟩
      rw [cutS_zero]
      have hz9 := hB9.size
      exact H.out.blocks (by omega) fun b hb => (h2 b (by omega) (.inl hb)).trans ((hB9.block b (by omega)).trans (HW0.out.block b hb))
    ·
      have hpos : 0 < n := by omega
      have hposi : (0 : Int) < (n : Int) := by omega
      have hgoc : go < wc.heap.size := by omega
      have HG : Hid (∀ W, Below wc.heap.size wc W → Calls Try.prog 26 #[.slice (some ⟨go, 0, none⟩) n (tot S), .int .i64 S.length] W fun e w' => ∃ gp f, e = .returned (.slice (some ⟨gp, 0, none⟩) S.length S.length) ∧ Gone gp S.length d W w' n f) := fun W hW =>
        goneAt_any go (tot S) n S.length d W (fun k hk => rangeAt_below (HBW.out.trans (hW.mono HBW.out.size)) (HOR.out k (by omega)) hgo) (by have := hW.size; omega) (fun k hk => by
          have h1 := HO.out.lt (t := k) (by omega)
          have hs : S[(d k).1]? = some S[(d k).1] := List.getElem?_eq_getElem h1.1
          have h2 := h1.2 _ hs
          have h3 := tot_take hs
          have h4 := tot_take_le S ((d k).1 + 1)
          exact ⟨h1.1, by omega⟩) (fun a b ha hb => HO.out.inj a b (by omega) (by omega)) hn hS
      have HS2 : Hid (∀ w', Below wc.heap.size wc w' → w'.cell? ⟨w.heap.size + 1, 6, none⟩ = some (.slice (some ⟨bs, 0, none⟩) S.length S.length) ∧ w'.cell? ⟨Bk, 13, none⟩ = some (.slice (some ⟨go, 0, none⟩) (tot S) (tot S)) ∧ w'.cell? ⟨w2.heap.size + 1, 2, none⟩ = some (.int .i64 (n : Int))) := fun w' hb => by
        have k : ∀ {a : Addr} {v : Value}, wc.cell? a = some v → w'.cell? a = some v := fun {a v} h => by rw [hb.cell (lt_of_cell h)]; exact h
        exact ⟨k c6, k b13', k g2⟩
      go_wp2_with fail
      go_region_held3 (fun w' => w'.cell? ⟨w.heap.size + 1, 6, none⟩ = some (.slice (some ⟨bs, 0, none⟩) S.length S.length) ∧ w'.cell? ⟨Bk, 13, none⟩ = some (.slice (some ⟨go, 0, none⟩) (tot S) (tot S)) ∧ w'.cell? ⟨w2.heap.size + 1, 2, none⟩ = some (.int .i64 (n : Int))) ((refine HS2.out _ ?_; go_grown))
        ((go_at_call 26; refine Calls.mono (HG.out _ (below_any' (by go_grown))) ?_; rintro e w6 ⟨gp, f, rfl, hG6⟩; have hB6 := below_via (w := wc) (by go_grown) hG6.below; have hz6 := hB6.size; have HG6 : Hid _ := hG6; clear hG6))
      have k6 : ∀ {a : Addr} {v : Value}, wc.cell? a = some v → w6.cell? a = some v := fun {a v} h => by rw [hB6.cell (lt_of_cell h)]; exact h
      have hHbl := lt_of_cell p0
      simp only at hHbl
      replace c6 := k6 c6
      have HRT6 : Hid (w6.there w.heap.size 0 9) := there_below hB6 HRT.out (by omega)
      have HTH6 : Hid (w6.there Hb 0 9) := there_below hB6 HTH.out hHbl
      have HBW6 : Hid (Below w.heap.size w w6) := HBW.out.trans (hB6.mono (by omega))
      obtain ⟨ob, hob, hmt⟩ := make_run (P := Try.prog) 35 65 3 56 und35 i65 S.length (by omega) (by omega)
      have hC6 : w.heap.size + 1 < w6.heap.size := by omega
      have hneC : w.heap.size + 1 ≠ Hb := by omega
      have hneC' : Hb ≠ w.heap.size + 1 := by omega
      have hHb6l : Hb < w6.heap.size := by omega
      obtain ⟨W4, hW4⟩ : ∃ W4, W4 = (w6.setCell ⟨Hb, 6, none⟩ (.slice (some ⟨w6.heap.size, 0, none⟩) S.length S.length)).alloc ob := ⟨_, rfl⟩
      have hzs : (w6.setCell ⟨Hb, 6, none⟩ (.slice (some ⟨w6.heap.size, 0, none⟩) S.length S.length)).heap.size = w6.heap.size := by simp [World.setCell]
      have hK4 : Kp Hb w6 W4 := by rw [hW4]; exact ((Kp.refl Hb w6).setCells 6 [(.slice (some ⟨w6.heap.size, 0, none⟩) S.length S.length)]).alloc ob
      have hz4 : W4.heap.size = w6.heap.size + 1 := by rw [hW4, World.size_alloc, hzs]
      have hT4 : W4.there w6.heap.size 0 (S.length * 3) := by rw [hW4]; exact there_at hmt hzs
      have HT4 : Hid (W4.there w6.heap.size 0 (S.length * 3)) := hT4
      have hal : ∀ {a : Addr}, a.block < w6.heap.size → W4.cell? a = (w6.setCell ⟨Hb, 6, none⟩ (.slice (some ⟨w6.heap.size, 0, none⟩) S.length S.length)).cell? a := fun {a} h => by
        rw [hW4]
        exact ((Below.refl _ _).alloc (Nat.le_refl _) _).cell (by rw [hzs]; exact h)
      have q6 : W4.cell? ⟨Hb, 6, none⟩ = some (.slice (some ⟨w6.heap.size, 0, none⟩) S.length S.length) := by
        rw [hal hHb6l]
        exact World.cell?_setCell_same _ _ _ (k6 p6)
      have HTH4 : Hid (W4.there Hb 0 9) := by
        show W4.there Hb 0 9
        rw [hW4]; exact World.there_alloc (World.there_setCells HTH6.out Hb 6 [(.slice (some ⟨w6.heap.size, 0, none⟩) S.length S.length)]) ob
      have k4 : ∀ {a : Addr} {v : Value}, wc.cell? a = some v → a ≠ ⟨Hb, 6, none⟩ → W4.cell? a = some v := fun {a v} h hne => by
        rw [hal (by have := lt_of_cell h; omega), World.cell?_setCell_other _ _ _ _ (fun e => hne e.symm)]
        exact k6 h
      have HRT4 : Hid (W4.there w.heap.size 0 9) := there_block (hK4.block _ (by omega) (by omega)) HRT6.out
      have HBW4 : Hid (Below w.heap.size w W4) := HBW6.out.trans (hK4.below (by omega) (by omega))
      have HK4 : Hid (Kp Hb w6 W4) := hK4
      replace p0 := k4 p0 (by simp)
      replace p1 := k4 p1 (by simp)
      replace p2 := k4 p2 (by simp)
      replace p3 := k4 p3 (by simp)
      replace p4 := k4 p4 (by simp)
      replace p5 := k4 p5 (by simp)
      replace p7 := k4 p7 (by simp)
      replace p8 := k4 p8 (by simp)
      replace o0 := k4 o0 (by simp)
      replace o1 := k4 o1 (by simp)
      replace o2 := k4 o2 (by simp)
      have HP : Hid (W4.rangeAt Hb 0 (heldv e0 bf br (.slice (some ⟨w6.heap.size, 0, none⟩) S.length S.length) (some ⟨w2.heap.size, 0, none⟩))) := range9 p0 p1 p2 p3 p4 p5 q6 p7 p8
      have HOB : Hid (W4.cell? ⟨w2.heap.size, 0, none⟩ = some (.int .i64 0) ∧ W4.cell? ⟨w2.heap.size, 1, none⟩ = some (.int .i64 0) ∧ W4.cell? ⟨w2.heap.size, 2, none⟩ = some (.int .i64 (n : Int))) := ⟨o0, o1, o2⟩
      obtain ⟨⟨r6, s6⟩, s6f⟩ := there1 (n := 9) HTH6.out (i := 6) (by omega)
      have HW4 : Hid _ := hW4
      have HZ4 : Hid (W4.heap.size = w6.heap.size + 1) := hz4
      have hgt4 : w6.heap.size < W4.heap.size := by omega
      clear hzs hal n0 n1 n2 n3 n4 n5 n6 n7 n8 z0 z1 z2 z3 z4 z5 z6 z7 z8 f0 f1 f2 f3 f4 f5 f6 f7 f8 p0 p1 p2 p3 p4 p5 p6 p7 p8 o0 o1 o2 q6 g2 b13' hmt hT4 k4 k6 hK4 hW4 hz4 HG HS2 HTH HTH6 HRT HRT6 HBW
      go_wp2
      go_loopw [92] (fun vi wr => ∃ k hd', k ≤ S.length ∧ vi = .int .i64 (k : Nat) ∧ Dropped w0.heap.size w6.heap.size d n S W4 wr k hd') (fun vi _ => S.length - (intOf vi).toNat)
      case atStart =>
        rw [← HW4.out]
        exact ⟨0, fun _ => (none, 0), by omega, rfl, Kp.refl _ _, hgt4, HT4.out, fun i s hi => absurd hi (by omega)⟩
      case round =>
        obtain ⟨k, hd', hk, rfl, hD⟩ := hrel
        have HD : Hid (Dropped w0.heap.size w6.heap.size d n S W4 wr k hd') := hD
        have hzr := hD.kp.size
        have HBR : Hid (Below w.heap.size w wr) := HBW4.out.trans (hD.kp.below (by omega) (by omega))
        clear hD hob
        by_cases hlt : k < S.length
        ·
          obtain ⟨s, hs⟩ : ∃ s, S[k]? = some s := ⟨S[k], List.getElem?_eq_getElem hlt⟩
          obtain ⟨⟨b, off, e, hbw, hr⟩, hR⟩ := (H.out.below (HW0.out.trans (HBR.out.mono hl0)) (Nat.le_refl _)) k s hs
          obtain ⟨rfl, rfl⟩ : bs = b ∧ 0 = off := by simpa using e
          rw [Nat.zero_add] at hr
          obtain ⟨c0, c1, c2⟩ := at3s hr
          have hm : s.pres.length ≤ 1048576 := by
            have := tot_take hs
            have := tot_take_le S (k + 1)
            omega
          have hblk : ∀ b, b < w6.heap.size → b ≠ Hb → wr.heap[b]? = w6.heap[b]? := fun b hb hne => (HD.out.kp.block b (by omega) (by omega)).trans (HK4.out.block b hb hne)
          have hgg : wc.heap.size ≤ gp := HG6.out.ge
          have hgl := HG6.out.lt
          have hgc : wr.cell? ⟨gp, k, none⟩ = some (.map (f k)) := by
            rw [World.cell?_of_block (w := w6) (hblk gp hgl (by omega))]
            exact HG6.out.cell k hlt
          have HM : Hid (MapIs wr (.map (f k)) (ksOf d n k)) := by
            show MapIs wr (.map (f k)) (ksOf d n k)
            rcases hf : f k with _ | b
            · exact .inl ⟨rfl, HG6.out.nil k hlt hf⟩
            · obtain ⟨h1, h2⟩ := HG6.out.set k hlt b hf
              exact .inr ⟨b, n, rfl, h2.of_block (hblk b h2.lt (by omega))⟩
          have hq6 : wr.cell? ⟨Hb, 6, none⟩ = some (.slice (some ⟨w6.heap.size, 0, none⟩) S.length S.length) := by
            rw [HD.out.kp.cell (p := ⟨Hb, 6, none⟩) (by dsimp only; omega) (by dsimp only; omega)]
            exact HP.out 6 _ rfl
          have HC : Hid (∀ W, Below wr.heap.size wr W → Calls Try.prog 27 #[.slice (hd k).1 s.pres.length (hd k).2, .map (f k)] W fun e w' => ∃ p' c', e = .returned (.slice p' (keepK (ksOf d n k) s.pres).length c') ∧ Below W.heap.size W w' ∧ RefsX w0.heap.size w6.heap.size w' p' (keepK (ksOf d n k) s.pres)) := fun W hW =>
            without_x (H.out k s hs).2 (Nat.le_refl _) (hR.below hW (Nat.le_refl _)) (by
              rcases HM.out with ⟨h1, h2⟩ | ⟨b, n', h1, h2⟩
              · exact .inl ⟨h1, h2⟩
              · exact .inr ⟨b, n', h1, h2.of_block (hW.block b h2.lt)⟩) (by have := HO.out.keep hnt hs; omega) hm (by have := hW.size; omega)
          obtain ⟨⟨x0, g0⟩, ⟨x1, g1⟩, ⟨x2, g2⟩, f0, f1, f2⟩ := there3 HD.out.row hlt
          have HSK : Hid (S[k]? = some s) := hs
          have hl6 : w6.heap.size < wr.heap.size := by omega
          have hn1 : w6.heap.size ≠ Hb := by omega
          have hn2 : w6.heap.size ≠ gp := by omega
          have hn3 : Hb ≠ w6.heap.size := by omega
          have hn4 : gp ≠ w6.heap.size := by omega
          have hn5 : wr.heap.size ≠ w6.heap.size := by omega
          have hn6 : w6.heap.size ≠ wr.heap.size := by omega
          have hgl' : gp < wr.heap.size := by omega
          have hHl' : Hb < wr.heap.size := by omega
          have HSS : Hid (∀ w', Below (wr.heap.size + 1) (wr.alloc (.cells #[.string s.locId, .string s.locName, .slice (hd k).1 s.pres.length (hd k).2] 65)) w' → w'.cell? ⟨Hb, 6, none⟩ = some (.slice (some ⟨w6.heap.size, 0, none⟩) S.length S.length) ∧ w'.cell? ⟨wr.heap.size, 0, none⟩ = some (.string s.locId) ∧ w'.cell? ⟨wr.heap.size, 1, none⟩ = some (.string s.locName) ∧
              w'.cell? ⟨wr.heap.size, 2, none⟩ = some (.slice (hd k).1 s.pres.length (hd k).2) ∧ w'.cell? ⟨gp, k, none⟩ = some (.map (f k)) ∧
              (w'.cell? ⟨w6.heap.size, k * 3, none⟩).isSome = true ∧ (w'.cell? ⟨w6.heap.size, k * 3 + 1, none⟩).isSome = true ∧ (w'.cell? ⟨w6.heap.size, k * 3 + 2, none⟩).isSome = true ∧
              w'.frozen? ⟨w6.heap.size, k * 3, none⟩ = false ∧ w'.frozen? ⟨w6.heap.size, k * 3 + 1, none⟩ = false ∧ w'.frozen? ⟨w6.heap.size, k * 3 + 2, none⟩ = false) := fun w' hb => by
            obtain ⟨hcl, hfr⟩ := bcell' hb
            refine ⟨?_, ?_, ?_, ?_, ?_, ?_, ?_, ?_, ?_, ?_, ?_⟩ <;> first | rw [hcl _ _ (by omega)] | rw [hfr _ _ (by omega)]
            all_goals first | (go_simp; done) | simp [*]
          clear hr hR hs hblk hgg hgl
          go_wp2_with fail
          go_region_held3 (fun w' => w'.cell? ⟨Hb, 6, none⟩ = some (.slice (some ⟨w6.heap.size, 0, none⟩) S.length S.length) ∧ w'.cell? ⟨wr.heap.size, 0, none⟩ = some (.string s.locId) ∧ w'.cell? ⟨wr.heap.size, 1, none⟩ = some (.string s.locName) ∧
              w'.cell? ⟨wr.heap.size, 2, none⟩ = some (.slice (hd k).1 s.pres.length (hd k).2) ∧ w'.cell? ⟨gp, k, none⟩ = some (.map (f k)) ∧
              (w'.cell? ⟨w6.heap.size, k * 3, none⟩).isSome = true ∧ (w'.cell? ⟨w6.heap.size, k * 3 + 1, none⟩).isSome = true ∧ (w'.cell? ⟨w6.heap.size, k * 3 + 2, none⟩).isSome = true ∧
              w'.frozen? ⟨w6.heap.size, k * 3, none⟩ = false ∧ w'.frozen? ⟨w6.heap.size, k * 3 + 1, none⟩ = false ∧ w'.frozen? ⟨w6.heap.size, k * 3 + 2, none⟩ = false)
            ((first
              | (refine HSS.out _ ?_; go_grown; done)
              | (refine ⟨by go_keep, by go_keep, by go_keep, by go_keep, by go_keep, ?_, ?_, ?_, by go_keep, by go_keep, by go_keep⟩ <;> first | (go_keep; done) | (rw [World.cell?_drew]; exact isSome_set' (isSome_set' (isSome_set' (by simp [*])))) | exact isSome_set' (isSome_set' (isSome_set' (by simp [*]))))))
            ((go_at_call 27; refine Calls.mono (HC.out _ (below_any' (by go_grown))) ?_; rintro e w7 ⟨p', c', rfl, hb7, hr7⟩; have hB7 := below_via (w := wr.alloc (.cells #[.string s.locId, .string s.locName, .slice (hd k).1 s.pres.length (hd k).2] 65)) (by go_grown) hb7; have hz7 := hB7.size; have hS7 := HSS.out w7 (below_any' (by simpa using hB7)); obtain ⟨d0, d1, d2, d3, d4, d5, d6, d7, d8, d9, d10⟩ := hS7; obtain ⟨v5, e5⟩ := Option.isSome_iff_exists.1 d5; obtain ⟨v6, e6⟩ := Option.isSome_iff_exists.1 d6; obtain ⟨v7, e7⟩ := Option.isSome_iff_exists.1 d7; have HR7 : Hid _ := hr7; clear hb7 hr7))
          go_wp2
          go_round
          case rel =>
            refine ⟨k + 1, fun i => if i = k then (p', c') else hd' i, by omega, ie' (by omega), ?_⟩
            have hB7' : Below wr.heap.size wr w7 := ((Below.refl _ _).alloc (Nat.le_refl _) _).trans (hB7.mono (by simp))
            first
              | exact (HD.out.later hB7').put HSK.out (by omega) (a := p') (m := c') HR7.out
              | exact ((HD.out.later hB7').put HSK.out (by omega) (a := p') (m := c') HR7.out).later (Below.refl _ _).drew
          case measure => simp [intOf]; omega
        ·
          have hD9 : Dropped w0.heap.size w6.heap.size d n S W4 wr S.length hd' := by
            have ekm : k = S.length := by omega
            have := HD.out
            rwa [ekm] at this
          have HD9 : Hid (Dropped w0.heap.size w6.heap.size d n S W4 wr S.length hd') := hD9
          have hkr := hD9.kp
          obtain ⟨o0, o1, o2⟩ := HOB.out
          rw [← hkr.cell (lt_of_cell o0) (by dsimp only; omega)] at o0
          rw [← hkr.cell (lt_of_cell o1) (by dsimp only; omega)] at o1
          rw [← hkr.cell (lt_of_cell o2) (by dsimp only; omega)] at o2
          have hPr : wr.rangeAt Hb 0 (heldv e0 bf br (.slice (some ⟨w6.heap.size, 0, none⟩) S.length S.length) (some ⟨w2.heap.size, 0, none⟩)) := range_block (hkr.block Hb (by omega) (by omega)) HP.out
          have hTr : wr.there Hb 0 9 := there_block (hkr.block Hb (by omega) (by omega)) HTH4.out
          have hRr : wr.there w.heap.size 0 9 := there_block (hkr.block _ (by omega) (by omega)) HRT4.out
          have HRr : Hid (wr.there w.heap.size 0 9) := hRr
          have HOr : Hid (wr.cell? ⟨w2.heap.size, 0, none⟩ = some (.int .i64 0) ∧ wr.cell? ⟨w2.heap.size, 1, none⟩ = some (.int .i64 0) ∧ wr.cell? ⟨w2.heap.size, 2, none⟩ = some (.int .i64 (n : Int))) := ⟨o0, o1, o2⟩
          obtain ⟨p0, p1, p2, p3, p4, p5, p6, p7, p8⟩ := at9 hPr
          obtain ⟨⟨y0, n0⟩, ⟨y1, n1⟩, ⟨y2, n2⟩, ⟨y3, n3⟩, ⟨y4, n4⟩, ⟨y5, n5⟩, ⟨y6, n6⟩, ⟨y7, n7⟩, ⟨y8, n8⟩, z0, z1, z2, z3, z4, z5, z6, z7, z8⟩ := there9 hRr
          obtain ⟨-, -, -, -, -, -, -, -, -, f0, f1, f2, f3, f4, f5, f6, f7, f8⟩ := there9 hTr
          clear hD9 hPr hTr hRr hkr
          have hnz : ((n : Int) = 0) = False := by simp; omega
          have hnz' : ((n : Int) == 0) = false := by simp; omega
          go_wp2
          have hk1 : Kp Hb wr (wr.setCells Hb 8 [.bool false]) := (Kp.refl _ _).setCells _ _
          have hr1 : (wr.setCells Hb 8 [.bool false]).there w.heap.size 0 9 := World.there_setCells HRr.out _ _ _
          have hk2 : Kp w.heap.size (wr.setCells Hb 8 [.bool false]) ((wr.setCells Hb 8 [.bool false]).setCells w.heap.size 0 (heldv e0 bf br (.slice (some ⟨w6.heap.size, 0, none⟩) S.length S.length) (some ⟨w2.heap.size, 0, none⟩))) := (Kp.refl _ _).setCells _ _
          have hW := World.rangeAt_setCells_same (wr.setCells Hb 8 [.bool false]) w.heap.size 0 (heldv e0 bf br (.slice (some ⟨w6.heap.size, 0, none⟩) S.length S.length) (some ⟨w2.heap.size, 0, none⟩)) hr1
          have hB9 : Below w.heap.size w ((wr.setCells Hb 8 [.bool false]).setCells w.heap.size 0 (heldv e0 bf br (.slice (some ⟨w6.heap.size, 0, none⟩) S.length S.length) (some ⟨w2.heap.size, 0, none⟩))) := (HBR.out.trans (hk1.below (by omega) (by omega))).trans (hk2.below (Nat.le_refl _) (by have := hk1.size; omega))
          have hz9 : wr.heap.size ≤ ((wr.setCells Hb 8 [.bool false]).setCells w.heap.size 0 (heldv e0 bf br (.slice (some ⟨w6.heap.size, 0, none⟩) S.length S.length) (some ⟨w2.heap.size, 0, none⟩))).heap.size := Nat.le_trans hk1.size hk2.size
          have hag : ∀ b, b < wr.heap.size → b ≠ Hb → b ≠ w.heap.size → ((wr.setCells Hb 8 [.bool false]).setCells w.heap.size 0 (heldv e0 bf br (.slice (some ⟨w6.heap.size, 0, none⟩) S.length S.length) (some ⟨w2.heap.size, 0, none⟩))).heap[b]? = wr.heap[b]? := fun b hb h1 h2 => (hk2.block b (by have := hk1.size; omega) h2).trans (hk1.block b hb h1)
          change bodyPost _ _ _ _ _ ((wr.setCells Hb 8 [.bool false]).setCells w.heap.size 0 (heldv e0 bf br (.slice (some ⟨w6.heap.size, 0, none⟩) S.length S.length) (some ⟨w2.heap.size, 0, none⟩)))
          clear hk2
          generalize (wr.setCells Hb 8 [.bool false]).setCells w.heap.size 0 (heldv e0 bf br (.slice (some ⟨w6.heap.size, 0, none⟩) S.length S.length) (some ⟨w2.heap.size, 0, none⟩)) = W9 at hB9 hW hz9 hag ⊢
          obtain ⟨k0, k1, k2, k3, k4, k5, k6, k7, k8⟩ := at9 hW
          refine bodyPost_ret (v := .agg (heldv e0 bf br (.slice (some ⟨w6.heap.size, 0, none⟩) S.length S.length) (some ⟨w2.heap.size, 0, none⟩)).toArray) (by simp [results, Try.results21, go_sem, k0, k1, k2, k3, k4, k5, k6, k7, k8, heldv]) rfl ?_
          obtain ⟨o0, o1, o2⟩ := HOr.out
          have hbo := hag w2.heap.size (by omega) (by omega) (by omega)
          refine ⟨w6.heap.size, hd', some ⟨w2.heap.size, 0, none⟩, rfl, hB9, fun h => absurd h hn0, fun W9' h1 h2 => ⟨HD9.out.sc (Nat.le_trans hz9 h1) (fun b hb hx => (h2 b (by omega) (by omega)).trans (hag b hb (by omega) (by omega))), fun _ => ⟨w2.heap.size, rfl, ?_, ?_, ?_⟩⟩⟩
          · rw [World.cell?_of_block (w := W9) (h2 w2.heap.size (by omega) (by omega)), World.cell?_of_block (w := wr) hbo]; exact o0
          · rw [World.cell?_of_block (w := W9) (h2 w2.heap.size (by omega) (by omega)), World.cell?_of_block (w := wr) hbo]; exact o1
          · rw [World.cell?_of_block (w := W9) (h2 w2.heap.size (by omega) (by omega)), World.cell?_of_block (w := wr) hbo]; exact o2
end Go.Proofs.Qxb6615139a
