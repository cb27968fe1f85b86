/-
  presentLastFirst: all places, sorted.
-/
import Derived.Test.Qxb6615139aLess
import Derived.Test.Qxb6615139aBuild
import Derived.Test.Qxb6615139aSortSlice
import Derived.Deep.AppendLies
import Derived.Laws.EntriesVeiled
namespace Go.Proofs.Qxb6615139a
open Go.RowKit Plain

theorem i85z : (Try.prog.info? 85).map (fun i => (i.zero, i.size, i.bytes)) = some (some (.agg #[.int .i64 0, .int .i64 0]), 2, 16) := by kernel_rfl

/-- the places L lie in order's own row -/
structure Ordg (C : List Value) (w wr : World) (v : Value) (L : List (Nat × Nat)) : Prop where
  below : Below w.heap.size w wr
  sz : w.heap.size + 2 ≤ wr.heap.size
  box : wr.rangeAt w.heap.size 0 C
  cell : wr.cell? ⟨w.heap.size + 1, 0, none⟩ = some v
  frozen : wr.frozen? ⟨w.heap.size + 1, 0, none⟩ = false
  own : wr.ownsRow (w.heap.size + 2) 85 2 v L.length (L.flatMap pc)

theorem Ordg.later {C : List Value} {w wr w' : World} {v : Value} {L : List (Nat × Nat)} (h : Ordg C w wr v L) (hb : Below wr.heap.size wr w') : Ordg C w w' v L := by
  have hs := h.sz
  have hz := hb.size
  refine ⟨h.below.trans (hb.mono (by omega)), by omega, rangeAt_below hb h.box (by omega), by rw [hb.cell (by dsimp only; omega)]; exact h.cell, by rw [hb.frozen (by dsimp only; omega)]; exact h.frozen, ?_⟩
  exact h.own.kept (row := none) ⟨hb.os, hb.tape, hb.output, hb.size, fun k hk _ => hb.block k hk⟩ (by cases h' : v.ownBlock <;> simp)

theorem Ordg.put {C : List Value} {w wr w' : World} {v v' : Value} {L : List (Nat × Nat)} {p : Nat × Nat} (h : Ordg C w wr v L) (hg : wr.grownBy w' v.ownBlock) (ho : w'.ownsRow (w.heap.size + 2) 85 2 v' (L.length + 1) (L.flatMap pc ++ pc p)) :
    Ordg C w (w'.setCell ⟨w.heap.size + 1, 0, none⟩ v') v' (L ++ [p]) := by
  have hs := h.sz
  have hz := hg.size
  have hr : ∀ k, k < w.heap.size + 2 → some k ≠ v.ownBlock := fun k hk e => by have := (h.own.lt k e.symm).1; omega
  have hb : ∀ k, k < w.heap.size + 2 → w'.heap[k]? = wr.heap[k]? := fun k hk => hg.block k (by omega) (hr k hk)
  have hk : Kp (w.heap.size + 1) w' (w'.setCell ⟨w.heap.size + 1, 0, none⟩ v') := (Kp.refl _ _).setCells 0 [v']
  have hkz := hk.size
  have hc : w'.cell? ⟨w.heap.size + 1, 0, none⟩ = some v := by rw [World.cell?_of_block (w := wr) (hb _ (by dsimp only; omega))]; exact h.cell
  refine ⟨h.below.trans ⟨hg.os, hg.tape, hg.output, by omega, fun k hk' => ?_⟩, by omega, ?_, World.cell?_setCell_same _ _ _ hc, ?_, ?_⟩
  · rw [hk.block k (by omega) (by omega)]; exact hb k (by omega)
  · intro j u hu
    rw [hk.cell (by dsimp only; omega) (by dsimp only; omega), World.cell?_of_block (w := wr) (hb _ (by dsimp only; omega))]
    exact h.box j u hu
  · rw [show (w'.setCell ⟨w.heap.size + 1, 0, none⟩ v').frozen? ⟨w.heap.size + 1, 0, none⟩ = w'.frozen? ⟨w.heap.size + 1, 0, none⟩ from World.frozen?_setCell _ _ _ _, World.frozen?_of_block (w := wr) (hb _ (by dsimp only; omega))]
    exact h.frozen
  · rw [List.length_append, List.flatMap_append]
    simp only [List.length_cons, List.length_nil, List.flatMap_cons, List.flatMap_nil, List.append_nil]
    exact ownsRow_setCell_below ho (by dsimp only; omega) _

theorem flat_get : ∀ (L : List (Nat × Nat)) (k : Nat) (p : Nat × Nat) (j : Nat) (u : Value), L[k]? = some p → (pc p)[j]? = some u → (L.flatMap pc)[k * 2 + j]? = some u
  | [], k, p, j, u, h, _ => by simp at h
  | q :: L, 0, p, j, u, h, hu => by
    obtain rfl : q = p := by simpa using h
    have hj : j < (pc q).length := (List.getElem?_eq_some_iff.1 hu).1
    rw [List.flatMap_cons, Nat.zero_mul, Nat.zero_add, List.getElem?_append_left hj]
    exact hu
  | q :: L, k + 1, p, j, u, h, hu => by
    have h' : L[k]? = some p := by simpa using h
    rw [List.flatMap_cons, List.getElem?_append_right (by rw [pc_length]; omega), pc_length, show (k + 1) * 2 + j - 2 = k * 2 + j by omega]
    exact flat_get L k p j u h' hu

theorem flat_length (L : List (Nat × Nat)) : (L.flatMap pc).length = L.length * 2 := by
  induction L with
  | nil => rfl
  | cons q L ih => rw [List.flatMap_cons, List.length_append, ih, pc_length, List.length_cons]; omega

theorem row_of_own {w : World} {base g cap : Nat} {L : List (Nat × Nat)} (h : w.ownsRow base 85 2 (.slice (some ⟨g, 0, none⟩) L.length cap) L.length (L.flatMap pc)) : Row w g L.length (fun k => L.getD k (0, 0)) := by
  refine ⟨fun j hj => ⟨?_, h.frozenAt _⟩, fun k hk j u hu => ?_⟩
  · rw [h.cellAt _ (by omega), List.getElem?_eq_getElem (by rw [flat_length]; omega)]
    rfl
  · have hj : j < 2 := (List.getElem?_eq_some_iff.1 hu).1
    rw [h.cellAt _ (by omega)]
    refine flat_get L k _ j u ?_ hu
    show L[k]? = some (L.getD k (0, 0))
    rw [List.getD_eq_getElem?_getD, List.getElem?_eq_getElem hk]
    rfl

theorem range_getD {α : Type} (L : List α) (z : α) : (List.range L.length).map (fun k => L.getD k z) = L := by
  apply List.ext_getElem
  · simp
  · intro i h1 h2
    simp [List.getD_eq_getElem?_getD, List.getElem?_eq_getElem h2]

/-- the places L, sorted, lie behind v -/
structure SortedAt (S : List Sc) (L : List (Nat × Nat)) (v : Value) (w' : World) (d : Nat → Nat × Nat) : Prop where
  at' : ∀ k, k < L.length → ∃ g cap, v = .slice (some ⟨g, 0, none⟩) L.length cap ∧ g < w'.heap.size ∧ w'.rangeAt g (k * 2) (pc (d k))
  form : ∃ p cap, v = .slice p L.length cap
  perm : ((List.range L.length).map d).Perm L
  srt : Srt (ltp S) 0 L.length d

theorem SortedAt.below {S : List Sc} {L : List (Nat × Nat)} {v : Value} {w w' : World} {d : Nat → Nat × Nat} (h : SortedAt S L v w d) (hb : Below w.heap.size w w') : SortedAt S L v w' d :=
  ⟨fun k hk => by
    obtain ⟨g, cap, e, h1, h2⟩ := h.at' k hk
    exact ⟨g, cap, e, Nat.lt_of_lt_of_le h1 hb.size, rangeAt_below hb h2 h1⟩, h.form, h.perm, h.srt⟩

theorem sort_step {e0 : ByteArray} {bf br bs : Nat} {S : List Sc} {hd : Nat → Option Addr × Nat} {w wr : World} {v : Value} {L : List (Nat × Nat)} (h : Ordg (ctx e0 bf br bs S.length) w wr v L) (hS : ScAt w (some ⟨bs, 0, none⟩) S hd) (hL : L.length ≤ 1048576) (hok : ∀ p ∈ L, Okp S p) :
    Calls Try.prog 29 #[.iface 83 v, .func (.func 30) #[] #[.pointer (some ⟨wr.heap.size, 0, none⟩), .pointer (some ⟨w.heap.size + 1, 0, none⟩)]] (wr.alloc (.cells #[.func (.func 28) #[] #[.pointer (some ⟨w.heap.size, 0, none⟩)]] 98))
      fun e w' => e = .returned (.tuple #[]) ∧ Below w.heap.size w w' ∧ w'.cell? ⟨w.heap.size + 1, 0, none⟩ = some v ∧ ∃ d, SortedAt S L v w' d := by
  have hb0 : Below wr.heap.size wr (wr.alloc (.cells #[.func (.func 28) #[] #[.pointer (some ⟨w.heap.size, 0, none⟩)]] 98)) := (Below.refl _ _).alloc (Nat.le_refl _) _
  have h' := h.later hb0
  have hBr : (wr.alloc (.cells #[.func (.func 28) #[] #[.pointer (some ⟨w.heap.size, 0, none⟩)]] 98)).cell? ⟨wr.heap.size, 0, none⟩ = some (.func (.func 28) #[] #[.pointer (some ⟨w.heap.size, 0, none⟩)]) := by go_simp
  have hz : (wr.alloc (.cells #[.func (.func 28) #[] #[.pointer (some ⟨w.heap.size, 0, none⟩)]] 98)).heap.size = wr.heap.size + 1 := by simp
  have hszr := h.sz
  have hlt' := h.own.lt
  generalize wr.alloc (.cells #[.func (.func 28) #[] #[.pointer (some ⟨w.heap.size, 0, none⟩)]] 98) = W0 at *
  have hd0 : ((List.range L.length).map fun k => L.getD k (0, 0)) = L := range_getD L _
  rcases h'.own.2 with ⟨rfl, hn⟩ | ⟨g, cap, cur, rfl, hg, -⟩
  · have e : L = [] := List.eq_nil_of_length_eq_zero hn
    subst e
    refine (sliceStable_tiny none 0 0 (by omega) _ W0).mono ?_
    rintro e w' ⟨rfl, hb⟩
    exact ⟨rfl, h'.below.trans (hb.mono h'.below.size), by rw [hb.cell (by have := h'.sz; dsimp only; omega)]; exact h'.cell, fun _ => (0, 0), fun k hk => absurd hk (by simp), ⟨none, 0, rfl⟩, by simp, fun i j _ _ hj => absurd hj (by simp)⟩
  · have hgl : g < wr.heap.size := (hlt' g rfl).2
    have hrow := row_of_own h'.own
    by_cases h2 : 2 ≤ L.length
    · obtain ⟨-, -, -, -, -, -, c6, -, -⟩ := at9 h'.box
      refine (sliceStable_any g L.length cap (Okp S) (ltp S) (ord_ltp S) _ hL h2 _ W0 (less_ok hS rfl h'.below (by omega) hBr h'.cell c6 (by omega) (by omega) (by omega)) hrow (fun k hk => ?_) (by omega)).mono ?_
      · refine hok _ ?_
        rw [List.getD_eq_getElem?_getD, List.getElem?_eq_getElem hk]
        exact List.getElem_mem hk
      · rintro e w' ⟨rfl, d', hk, hr, hp, hs⟩
        refine ⟨rfl, h'.below.trans (hk.below (by omega) h'.below.size), by rw [hk.cell (by dsimp only; omega) (by dsimp only; omega)]; exact h'.cell, d', fun k hk' => ⟨g, cap, rfl, by have := hk.size; omega, hr.2 k hk'⟩, ⟨_, cap, rfl⟩, ?_, hs⟩
        have hp' : ((List.range L.length).map d').Perm _ := hp
        rw [hd0] at hp'
        exact hp'
    · refine (sliceStable_tiny _ _ cap (by omega) _ W0).mono ?_
      rintro e w' ⟨rfl, hb⟩
      refine ⟨rfl, h'.below.trans (hb.mono h'.below.size), by rw [hb.cell (by have := h'.sz; dsimp only; omega)]; exact h'.cell, fun k => L.getD k (0, 0), fun k hk' => ⟨g, cap, rfl, by have := hb.size; omega, rangeAt_below hb (hrow.2 k hk') (by omega)⟩, ⟨_, cap, rfl⟩, by rw [hd0], fun i j _ hij hj => ?_⟩
      obtain rfl : i = j := by omega
      exact (ord_ltp S).irrefl _

theorem new_pair (w : World) (k j : Nat) : ∀ t u, (pc (k, j))[t]? = some u → (w.alloc (.cells #[.int .i64 k, .int .i64 j] 85)).cell? ((⟨w.heap.size, 0, none⟩ : Addr).add t) = some u := by
  intro t u hu
  rw [Addr.add_mid, Nat.zero_add]
  match t, hu with
  | 0, hu => obtain rfl := Option.some.inj (show some (Value.int .i64 (k : Int)) = some u from hu); go_simp
  | 1, hu => obtain rfl := Option.some.inj (show some (Value.int .i64 (j : Int)) = some u from hu); go_simp
  | _ + 2, hu => simp [pc] at hu

/-- order = append(order, itemAt{place, i}) -/
theorem ord_append {ops : Array Oper} {rest : List Oper} {o : Oper} {a : Act} {Q : Exit → Act → World → Prop} (hgd : o.guard = none) (ho : o.op = .call { callee := .builtin .append, args := #[.tmp 22, .tmp 26], argTypes := #[83, 83] })
    {C : List Value} {w wr : World} {v : Value} {L : List (Nat × Nat)} (h : Ordg C w wr v L) (hn : L.length + 1 ≤ 1048576) (hs : a.eval (.tmp 22) = v) (hx : a.eval (.tmp 26) = .slice (some ⟨wr.heap.size, 0, none⟩) 1 1) (k j : Nat)
    (hK : ∀ g n cap w', w'.cell? ⟨w.heap.size + 1, 0, none⟩ = some v → w'.frozen? ⟨w.heap.size + 1, 0, none⟩ = false → Ordg C w (w'.setCell ⟨w.heap.size + 1, 0, none⟩ (.slice (some ⟨g, 0, none⟩) n cap)) (.slice (some ⟨g, 0, none⟩) n cap) (L ++ [(k, j)]) → wpList Try.prog ops Q rest (a.put o.dst (.slice (some ⟨g, 0, none⟩) n cap)) w') :
    wpList Try.prog ops Q (o :: rest) a (wr.alloc (.cells #[.int .i64 k, .int .i64 j] 85)) := by
  obtain ⟨i, hi, hzz⟩ := Option.map_eq_some_iff.1 i85z
  simp only [Prod.mk.injEq] at hzz
  have hsz := h.sz
  have h' := h.later ((Below.refl _ _).alloc (Nat.le_refl _) (.cells #[.int .i64 k, .int .i64 j] 85))
  refine wpList_append_lies _ hgd _ _ 83 ho (w.heap.size + 2) 85 i _ 2 16 und83 hi hzz.1 hzz.2.1 hzz.2.2 rfl (by omega) v L.length (L.flatMap pc) hs h'.own ⟨wr.heap.size, 0, none⟩ 1 1 (pc (k, j)) hx rfl (new_pair wr k j) (pc_one _) (by omega)
    (Nat.le_trans hn (by decide)) (by omega) (by simp; omega) _ rfl ?_
  intro g cap w' ho' hg _ _
  have hr : some (w.heap.size + 1) ≠ v.ownBlock := fun e => by have := (h.own.lt _ e.symm).1; omega
  have hblk := hg.block (w.heap.size + 1) (by simp; omega) hr
  refine hK g _ cap w' ?_ ?_ (h'.put hg ho')
  · rw [World.cell?_of_block (w := wr.alloc (.cells #[.int .i64 k, .int .i64 j] 85)) hblk]; exact h'.cell
  · rw [World.frozen?_of_block (w := wr.alloc (.cells #[.int .i64 k, .int .i64 j] 85)) hblk]; exact h'.frozen

set_option maxHeartbeats 1000000 in
set_option maxRecDepth 100000 in
theorem presentLastFirst_any (e0 : ByteArray) (bf br bs : Nat) (S : List Sc) (hd : Nat → Option Addr × Nat) (w : World) (h : ScAt w (some ⟨bs, 0, none⟩) S hd) (hS : S.length ≤ 1048576) (ht : tot S ≤ 1048576) :
    Calls Try.prog 22 #[.agg (ctx e0 bf br bs S.length).toArray] w fun e w' => ∃ v d, e = .returned v ∧ Below w.heap.size w w' ∧ SortedAt S (enK S S.length) v w' d := by
  have H : Hid (ScAt w (some ⟨bs, 0, none⟩) S hd) := h
  clear h
  show Calls Try.prog 22 #[.agg #[.string e0, .string ⟨#[]⟩, .string ⟨#[]⟩, .map none, .slice (some ⟨bf, 0, none⟩) 0 0, .slice (some ⟨br, 0, none⟩) 0 0, .slice (some ⟨bs, 0, none⟩) S.length S.length, .pointer none, .bool false]] w _
  go_enter Try.func22, Try.ntmps22
  go_wp2
  go_loopw [11] (fun vi wr => ∃ k v, k ≤ S.length ∧ vi = .int .i64 (k : Nat) ∧ Ordg (ctx e0 bf br bs S.length) w wr v (enK S k)) (fun vi _ => S.length - (intOf vi).toNat)
  case atStart =>
    refine ⟨0, .slice none 0 0, by omega, rfl, below_any' (by go_grown), by simp, ?_, ?_, ?_, World.ownsRow_nil _ _ _ _⟩
    · refine range9 ?_ ?_ ?_ ?_ ?_ ?_ ?_ ?_ ?_ <;> go_simp
    · go_simp
    · go_simp
  case round =>
    obtain ⟨k, v, hk, rfl, hL⟩ := hrel
    have HL : Hid (Ordg (ctx e0 bf br bs S.length) w wr v (enK S k)) := hL
    clear hL
    obtain ⟨w1, rfl⟩ : ∃ x, x = wr := ⟨_, rfl⟩
    by_cases hlt : k < S.length
    · obtain ⟨s, hs⟩ : ∃ s, S[k]? = some s := ⟨S[k], List.getElem?_eq_getElem hlt⟩
      obtain ⟨⟨b, off, hbo, hbw, hr⟩, -⟩ := H.out k s hs
      have e' := Option.some.inj hbo
      simp only [Addr.mk.injEq] at e'
      obtain ⟨rfl, rfl, -⟩ := e'
      rw [Nat.zero_add] at hr
      obtain ⟨c0, c1, c2⟩ := at3s (rangeAt_below HL.out.below hr hbw)
      have HS : Hid (S[k]? = some s) := hs
      have HE : Hid (enK S (k + 1) = enK S k ++ (List.range s.pres.length).map fun i => (k, i)) := by show enK S (k + 1) = _; rw [enK, hs]; rfl
      have HN : Hid (tot (S.take k) + s.pres.length ≤ 1048576 ∧ (enK S k).length = tot (S.take k)) := by
        have h1 := tot_take hs
        have h2 := tot_take_le S (k + 1)
        exact ⟨by omega, enK_length S k hk⟩
      have hm : s.pres.length ≤ 1048576 := by have := HN.out.1; omega
      clear hbo hr hs
      go_wp2
      go_loopw [19] (fun vj wr => ∃ j v, j ≤ s.pres.length ∧ vj = .int .i64 (j : Nat) ∧ Ordg (ctx e0 bf br bs S.length) w wr v (enK S k ++ (List.range j).map fun i => (k, i))) (fun vj _ => s.pres.length - (intOf vj).toNat)
      case atStart =>
        refine ⟨0, v, by omega, rfl, ?_⟩
        rw [List.range_zero, List.map_nil, List.append_nil]
        exact HL.out.later ((Below.refl _ _).alloc (Nat.le_refl _) _)
      case round =>
        obtain ⟨j, v2, hj, rfl, hL2⟩ := hrel
        have HL2 : Hid (Ordg (ctx e0 bf br bs S.length) w wr v2 (enK S k ++ (List.range j).map fun i => (k, i))) := hL2
        have k1 := hL2.cell
        have k2 := hL2.frozen
        have k3 := hL2.sz
        clear hL2 HL
        by_cases hlj : j < s.pres.length
        · have HN2 : Hid ((enK S k ++ (List.range j).map fun i => (k, i)).length + 1 ≤ 1048576) := by
            have := HN.out
            show (enK S k ++ (List.range j).map fun i => (k, i)).length + 1 ≤ 1048576
            rw [List.length_append, List.length_map, List.length_range]
            omega
          have HE2 : Hid ((enK S k ++ (List.range (j + 1)).map fun i => (k, i)) = (enK S k ++ (List.range j).map fun i => (k, i)) ++ [(k, j)]) := by
            show (enK S k ++ (List.range (j + 1)).map fun i => (k, i)) = _
            rw [List.range_succ, List.map_append, List.append_assoc]; rfl
          go_wp2_with (refine ord_append rfl rfl HL2.out HN2.out rfl rfl k j ?_; intro g3 n3 cap3 w3 q1 q2 hq; have HQ : Hid _ := hq; clear hq)
          go_round
          case rel => exact ⟨j + 1, _, by omega, ie' (by omega), by rw [HE2.out]; exact HQ.out⟩
          case measure => simp [intOf]; omega
        · have HL3 : Hid (Ordg (ctx e0 bf br bs S.length) w wr v2 (enK S (k + 1))) := by
            have : j = s.pres.length := by omega
            show Ordg (ctx e0 bf br bs S.length) w wr v2 (enK S (k + 1))
            rw [HE.out, ← this]; exact HL2.out
          clear HL2
          go_wp2
          go_round
          case rel => exact ⟨k + 1, v2, by omega, ie' (by omega), HL3.out⟩
          case measure => simp [intOf]; omega
    · have hkS : k = S.length := by omega
      have HL4 : Ordg (ctx e0 bf br bs S.length) w w1 v (enK S S.length) := by have := HL.out; rwa [hkS] at this
      have HC : Hid _ := sort_step HL4 H.out (by rw [enK_length S _ (Nat.le_refl _), List.take_length]; exact ht) (fun p hp => ((mem_enK S _ p).1 hp).2)
      have k1 := HL.out.cell
      have k2 := HL.out.frozen
      have k3 : w.heap.size + 1 < w1.heap.size := HL.out.sz
      clear HL hkS HL4
      go_wp2_with (go_at_call 29; refine Calls.mono HC.out ?_; rintro e w2 ⟨rfl, hb2, hc2, d, hd2⟩; have HB2 : Hid _ := hb2; have HD2 : Hid _ := hd2; clear hb2 hd2)
      go_ret
      exact ⟨v, d, rfl, HB2.out, HD2.out⟩
end Go.Proofs.Qxb6615139a
