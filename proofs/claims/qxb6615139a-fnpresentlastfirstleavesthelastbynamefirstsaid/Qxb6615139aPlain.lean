/-
  The plain law: what is left, what is gone, the match of the one in the other.
-/
import Derived.Test.Qxb6615139aGone
namespace Go.Proofs.Qxb6615139a
open Go.RowKit Plain

def key (r : Rf) : List UInt8 × List UInt8 × List UInt8 := (r.id.toList, r.ty.toList, r.name.toList)

theorem same_iff (a b : Rf) : same a b = true ↔ key a = key b := by
  simp [same, key, and_assoc]

theorem tg_key {a a' b b' : Rf} (p q : Nat) (h : key a = key a') (h' : key b = key b') : tg a p b q = tg a' p b' q := by
  simp only [key, Prod.mk.injEq] at h h'
  exact tg_congr p q h.2.2 h.1 h'.2.2 h'.1

/-- the scenes without the first n of the order d -/
def cutS (d : Nat → Nat × Nat) (n : Nat) (S : List Sc) : List Sc := S.mapIdx fun i s => ⟨s.locId, s.locName, keepK (ksOf d n i) s.pres⟩

theorem cutS_length (d : Nat → Nat × Nat) (n : Nat) (S : List Sc) : (cutS d n S).length = S.length := by simp [cutS]
theorem cutS_get {d : Nat → Nat × Nat} {n : Nat} {S : List Sc} {i : Nat} {s : Sc} (h : S[i]? = some s) : (cutS d n S)[i]? = some ⟨s.locId, s.locName, keepK (ksOf d n i) s.pres⟩ := by simp [cutS, h]

theorem ksOf_zero (d : Nat → Nat × Nat) (s : Nat) : ksOf d 0 s = [] := by simp [ksOf]

theorem cutS_zero (d : Nat → Nat × Nat) (S : List Sc) : cutS d 0 S = S := by
  apply List.ext_getElem?
  intro i
  cases h : S[i]? with
  | none => simp [cutS, h]
  | some s => rw [cutS_get h, ksOf_zero, keepK_nil]

theorem mem_ksOf (d : Nat → Nat × Nat) (n s i : Nat) : i ∈ ksOf d n s ↔ ∃ t, t < n ∧ d t = (s, i) := by
  unfold ksOf
  rw [List.mem_map]
  constructor
  · rintro ⟨t, ht, rfl⟩
    rw [List.mem_filter, List.mem_range] at ht
    exact ⟨t, ht.1, by rw [← (beq_iff_eq.1 ht.2)]⟩
  · rintro ⟨t, ht, e⟩
    exact ⟨t, by rw [List.mem_filter, List.mem_range]; exact ⟨ht, by simp [e]⟩, by rw [e]⟩

theorem nodup_ksOf {d : Nat → Nat × Nat} {m : Nat} (hinj : ∀ a b, a < m → b < m → d a = d b → a = b) (s : Nat) : ∀ n, n ≤ m → (ksOf d n s).Nodup
  | 0, _ => by simp [ksOf]
  | n + 1, h => by
    rw [ksOf_succ]
    split
    next e =>
      have hnew := ksOf_new hinj (by omega : n < m) (show d n = (s, (d n).2) by rw [← e])
      rw [List.nodup_append]
      refine ⟨nodup_ksOf hinj s n (by omega), by simp, fun a ha b hb => ?_⟩
      rw [List.mem_singleton] at hb
      rw [hb]
      rintro rfl
      simp at hnew
      exact hnew ha
    next => simpa using nodup_ksOf hinj s n (by omega)

theorem keepK_sub (K : List Nat) (R : List Rf) : (keepK K R).Sublist R := by
  have h := (List.filter_sublist (l := R.zipIdx) (p := fun p => !K.contains p.2)).map (fun p => p.1)
  have e : R.zipIdx.map (fun p => p.1) = R := by simp
  rw [e] at h
  exact h

theorem keepK_count (K : List Nat) (R : List Rf) : ∀ k, k ≤ R.length → (keepK K (R.take k)).length + ((List.range k).filter fun j => K.contains j).length = k
  | 0, _ => by simp [keepK]
  | k + 1, h => by
    have hr : R[k]? = some R[k] := List.getElem?_eq_getElem (by omega)
    have ih := keepK_count K R k (by omega)
    rw [keepK_take hr, List.range_succ, List.filter_append, List.length_append, List.length_append]
    by_cases hc : K.contains k = true
    · simp only [List.filter_cons, hc, if_true, List.filter_nil, List.length_cons, List.length_nil]
      omega
    · simp only [List.filter_cons, hc, List.filter_nil]
      simp only [Bool.false_eq_true, if_false, List.length_nil, List.length_cons]
      omega

theorem filter_nodup {K : List Nat} {m : Nat} (hn : K.Nodup) (hb : ∀ i ∈ K, i < m) : ((List.range m).filter fun j => K.contains j).length = K.length := by
  apply List.Perm.length_eq
  rw [List.perm_iff_count]
  intro a
  have h1 : ((List.range m).filter fun j => K.contains j).Nodup := List.nodup_range.filter _
  have hm : a ∈ ((List.range m).filter fun j => K.contains j) ↔ a ∈ K := by
    rw [List.mem_filter, List.mem_range]
    simp
    exact fun h => hb a h
  by_cases h : a ∈ K
  · have c1 := List.count_pos_iff.2 h
    have c2 := List.count_pos_iff.2 (hm.2 h)
    have c3 := List.nodup_iff_count.1 h1 a
    have c4 := List.nodup_iff_count.1 hn a
    omega
  · rw [List.count_eq_zero.2 h, List.count_eq_zero.2 (fun h' => h (hm.1 h'))]

/-- what the sorted order is -/
structure Order (S : List Sc) (d : Nat → Nat × Nat) : Prop where
  ok : ∀ t, t < tot S → Okp S (d t)
  inj : ∀ a b, a < tot S → b < tot S → d a = d b → a = b
  onto : ∀ p, Okp S p → ∃ t, t < tot S ∧ d t = p
  srt : Srt (ltp S) 0 (tot S) d

theorem order_of {S : List Sc} {d : Nat → Nat × Nat} (hp : ((List.range (tot S)).map d).Perm (enK S S.length)) (hs : Srt (ltp S) 0 (tot S) d) : Order S d := by
  have hm : ∀ p, p ∈ (List.range (tot S)).map d ↔ Okp S p := fun p => by
    rw [hp.mem_iff, mem_enK]
    constructor
    · exact fun h => h.2
    · rintro ⟨s, r, h1, h2⟩
      exact ⟨(List.getElem?_eq_some_iff.1 h1).1, s, r, h1, h2⟩
  have hnd : ((List.range (tot S)).map d).Nodup := hp.nodup_iff.2 (nodup_enK S _)
  refine ⟨fun t ht => (hm _).1 (List.mem_map.2 ⟨t, List.mem_range.2 ht, rfl⟩), fun a b ha hb e => ?_, fun p h => ?_, hs⟩
  · have hl : ((List.range (tot S)).map d).length = tot S := by simp
    have hpw := List.pairwise_iff_getElem.1 hnd
    rcases Nat.lt_trichotomy a b with h | h | h
    · exact absurd (by rw [List.getElem_map, List.getElem_map, List.getElem_range, List.getElem_range]; exact e) (hpw a b (by rw [hl]; exact ha) (by rw [hl]; exact hb) h)
    · exact h
    · exact absurd (by rw [List.getElem_map, List.getElem_map, List.getElem_range, List.getElem_range]; exact e.symm) (hpw b a (by rw [hl]; exact hb) (by rw [hl]; exact ha) h)
  · obtain ⟨t, ht, e⟩ := List.mem_map.1 ((hm p).2 h)
    exact ⟨t, List.mem_range.1 ht, e⟩

theorem Order.lt {S : List Sc} {d : Nat → Nat × Nat} (h : Order S d) {t : Nat} (ht : t < tot S) : (d t).1 < S.length ∧ ∀ s, S[(d t).1]? = some s → (d t).2 < s.pres.length := by
  obtain ⟨s, r, h1, h2⟩ := h.ok t ht
  refine ⟨(List.getElem?_eq_some_iff.1 h1).1, fun s' hs' => ?_⟩
  rw [h1] at hs'
  obtain rfl := Option.some.inj hs'
  exact (List.getElem?_eq_some_iff.1 h2).1

theorem Order.keep {S : List Sc} {d : Nat → Nat × Nat} (h : Order S d) {n : Nat} (hn : n ≤ tot S) {i : Nat} {s : Sc} (hs : S[i]? = some s) : (keepK (ksOf d n i) s.pres).length + (ksOf d n i).length = s.pres.length := by
  have h1 := keepK_count (ksOf d n i) s.pres s.pres.length (Nat.le_refl _)
  rw [List.take_length, filter_nodup (nodup_ksOf h.inj i n hn) (fun j hj => ?_)] at h1
  · exact h1
  · obtain ⟨t, ht, e⟩ := (mem_ksOf d n i j).1 hj
    have := (h.lt (t := t) (by omega)).2
    rw [e] at this
    exact this s hs

theorem ks_sum (d : Nat → Nat × Nat) (k : Nat) : ∀ n, ((List.range n).filter fun t => decide ((d t).1 < k + 1)).length = ((List.range n).filter fun t => decide ((d t).1 < k)).length + (ksOf d n k).length
  | 0 => by simp [ksOf]
  | n + 1 => by
    have ih := ks_sum d k n
    rw [ksOf_succ, List.range_succ, List.filter_append, List.filter_append, List.length_append, List.length_append, List.length_append, ih]
    by_cases h1 : (d n).1 < k
    · have h2 : (d n).1 < k + 1 := by omega
      have h3 : ¬ (d n).1 = k := by omega
      simp [h1, h2, h3]
      omega
    · by_cases h3 : (d n).1 = k
      · have h2 : (d n).1 < k + 1 := by omega
        simp [h3]
        omega
      · have h2 : ¬ (d n).1 < k + 1 := by omega
        simp [h1, h2, h3]

theorem Order.tot_cut {S : List Sc} {d : Nat → Nat × Nat} (h : Order S d) {n : Nat} (hn : n ≤ tot S) : ∀ k, k ≤ S.length → tot ((cutS d n S).take k) + ((List.range n).filter fun t => decide ((d t).1 < k)).length = tot (S.take k)
  | 0, _ => by simp [tot]
  | k + 1, hk => by
    have hs : S[k]? = some S[k] := List.getElem?_eq_getElem (by omega)
    have ih := h.tot_cut hn k (by omega)
    have h1 := h.keep hn hs
    rw [tot_take hs, tot_take (cutS_get hs), ks_sum]
    simp only at *
    omega

theorem Order.tot_all {S : List Sc} {d : Nat → Nat × Nat} (h : Order S d) {n : Nat} (hn : n ≤ tot S) : tot (cutS d n S) + n = tot S := by
  have h1 := h.tot_cut hn S.length (Nat.le_refl _)
  rw [List.take_length, List.take_of_length_le (by rw [cutS_length]; exact Nat.le_refl _)] at h1
  have h2 : ((List.range n).filter fun t => decide ((d t).1 < S.length)) = List.range n := by
    rw [List.filter_eq_self]
    intro a ha
    rw [List.mem_range] at ha
    simpa using (h.lt (t := a) (by omega)).1
  rw [h2, List.length_range] at h1
  exact h1

/-- the match stands at p of what is held and at i of what was -/
structure Inner (hp orig : List Rf) (p i : Nat) : Prop where
  a : ((hp.take p).map key).Sublist ((orig.take i).map key)
  b : ((hp.drop p).map key).Sublist ((orig.drop i).map key)
  pl : p ≤ hp.length

theorem Inner.start {hp orig : List Rf} (h : hp.Sublist orig) : Inner hp orig 0 0 := ⟨by simp, by simpa using h.map key, by simp⟩

theorem Inner.le {hp orig : List Rf} {p i : Nat} (h : Inner hp orig p i) : p ≤ i := by
  have h1 := h.a.length_le
  have h2 := h.pl
  simp at h1
  omega

theorem Inner.done {hp orig : List Rf} {p : Nat} (h : Inner hp orig p orig.length) : p = hp.length := by
  have h1 := h.b.length_le
  have h2 := h.pl
  simp at h1
  omega

theorem Inner.hit {hp orig : List Rf} {p i : Nat} (h : Inner hp orig p i) {x o : Rf} (hx : hp[p]? = some x) (ho : orig[i]? = some o) (hs : same x o = true) : Inner hp orig (p + 1) (i + 1) := by
  have hk := (same_iff x o).1 hs
  obtain ⟨l1, e1⟩ := List.getElem?_eq_some_iff.1 hx
  obtain ⟨l2, e2⟩ := List.getElem?_eq_some_iff.1 ho
  refine ⟨?_, ?_, l1⟩
  · rw [List.take_add_one, List.take_add_one, hx, ho]
    simp only [Option.toList, List.map_append, List.map_cons, List.map_nil, hk]
    exact h.a.append (List.Sublist.refl _)
  · have hb := h.b
    rw [List.drop_eq_getElem_cons l1, List.drop_eq_getElem_cons l2, e1, e2, List.map_cons, List.map_cons, hk] at hb
    exact List.cons_sublist_cons.1 hb

theorem Inner.miss {hp orig : List Rf} {p i : Nat} (h : Inner hp orig p i) {o : Rf} (ho : orig[i]? = some o) (hs : ∀ x, hp[p]? = some x → same x o = false) :
    Inner hp orig p (i + 1) ∧ (hp.map key).count (key o) < (orig.map key).count (key o) := by
  obtain ⟨l2, e2⟩ := List.getElem?_eq_some_iff.1 ho
  have hb : ((hp.drop p).map key).Sublist ((orig.drop (i + 1)).map key) := by
    have hb := h.b
    rw [List.drop_eq_getElem_cons l2, e2, List.map_cons] at hb
    rcases List.sublist_cons_iff.1 hb with h1 | ⟨r, h1, h2⟩
    · exact h1
    · by_cases l1 : p < hp.length
      · rw [List.drop_eq_getElem_cons l1, List.map_cons] at h1
        have hx : hp[p]? = some hp[p] := List.getElem?_eq_getElem l1
        have h3 := hs _ hx
        have h4 := (List.cons.inj h1).1
        rw [(same_iff _ _).2 h4] at h3
        exact absurd h3 (by decide)
      · rw [List.drop_eq_nil_of_le (by omega)] at h1
        simp at h1
  refine ⟨⟨?_, hb, h.pl⟩, ?_⟩
  · rw [List.take_add_one, ho, List.map_append]
    exact h.a.trans (List.sublist_append_left _ _)
  · have c1 := h.a.count_le (key o)
    have c2 := hb.count_le (key o)
    have e1 : (hp.map key).count (key o) = ((hp.take p).map key).count (key o) + ((hp.drop p).map key).count (key o) := by
      rw [← List.count_append, ← List.map_append, List.take_append_drop]
    have e3 : (orig.map key).count (key o) = ((orig.take i).map key).count (key o) + ((orig.drop i).map key).count (key o) := by
      rw [← List.count_append, ← List.map_append, List.take_append_drop]
    rw [List.drop_eq_getElem_cons l2, e2, List.map_cons, List.count_cons_self] at e3
    omega

theorem keepK_gone (K : List Nat) (R : List Rf) (x : List UInt8 × List UInt8 × List UInt8) (h : ∀ j r, R[j]? = some r → K.contains j = true → key r ≠ x) : ∀ k, k ≤ R.length → ((keepK K (R.take k)).map key).count x = ((R.take k).map key).count x
  | 0, _ => by simp [keepK]
  | k + 1, hk => by
    have hr : R[k]? = some R[k] := List.getElem?_eq_getElem (by omega)
    have ih := keepK_gone K R x h k (by omega)
    rw [keepK_take hr, List.take_add_one, hr, List.map_append, List.map_append, List.count_append, List.count_append, ih]
    by_cases hc : K.contains k = true
    · have := h k _ hr hc
      rw [if_pos hc]
      simp [this]
    · rw [if_neg hc]
      simp

/-- one that stays -/
def KeptV (S' : List Sc) (r : Rf) (p : Nat) : Prop := ∃ s x, S'[p]? = some s ∧ x ∈ s.pres ∧ key x = key r
/-- one that goes -/
def GoneV (S : List Sc) (d : Nat → Nat × Nat) (n : Nat) (r : Rf) (p : Nat) : Prop := ∃ t, t < n ∧ (d t).1 = p ∧ key (rf S (d t)) = key r

theorem gone_of {S : List Sc} {d : Nat → Nat × Nat} {n i : Nat} {s : Sc} {o : Rf} (hs : S[i]? = some s) (h : ((keepK (ksOf d n i) s.pres).map key).count (key o) < (s.pres.map key).count (key o)) : GoneV S d n o i := by
  refine Classical.byContradiction fun hno => ?_
  have := keepK_gone (ksOf d n i) s.pres (key o) (fun j r hr hc e => ?_) s.pres.length (Nat.le_refl _)
  · rw [List.take_length] at this
    omega
  · rw [List.contains_iff_mem] at hc
    obtain ⟨t, ht, e2⟩ := (mem_ksOf d n i j).1 hc
    refine hno ⟨t, ht, by rw [e2], ?_⟩
    rw [rf_eq (S := S) (p := d t) (s := s) (r := r) (by rw [e2]; exact hs) (by rw [e2]; exact hr)]
    exact e

theorem keepK_mem {K : List Nat} {R : List Rf} {x : Rf} (h : x ∈ keepK K R) : ∃ j, R[j]? = some x ∧ K.contains j = false := by
  unfold keepK at h
  obtain ⟨p, hp, rfl⟩ := List.mem_map.1 h
  rw [List.mem_filter] at hp
  refine ⟨p.2, ?_, by simpa using hp.2⟩
  obtain ⟨v, j⟩ := p
  have := List.mem_zipIdx hp.1
  simp at this ⊢
  obtain ⟨h1, h2⟩ := this
  rw [h2]
  exact List.getElem?_eq_getElem h1

theorem Order.kept_gone {S : List Sc} {d : Nat → Nat × Nat} (h : Order S d) {n : Nat} {a b : Rf} {p q : Nat} (hk : KeptV (cutS d n S) a p) (hg : GoneV S d n b q) : tg a p b q = false := by
  obtain ⟨s', x, hs', hx, ek⟩ := hk
  obtain ⟨t, ht, et, eg⟩ := hg
  have hp : p < S.length := by rw [← cutS_length d n S]; exact (List.getElem?_eq_some_iff.1 hs').1
  have hs : S[p]? = some S[p] := List.getElem?_eq_getElem hp
  rw [cutS_get hs] at hs'
  obtain rfl := Option.some.inj hs'
  obtain ⟨j, hj, hc⟩ := keepK_mem hx
  obtain ⟨u, hu, eu⟩ := h.onto (p, j) ⟨_, x, hs, hj⟩
  have hun : n ≤ u := by
    refine Classical.byContradiction fun h' => ?_
    have : j ∈ ksOf d n p := (mem_ksOf d n p j).2 ⟨u, by omega, eu⟩
    rw [← List.contains_iff_mem, hc] at this
    exact absurd this (by decide)
  have := h.srt t u (Nat.zero_le _) (by omega) hu
  unfold ltp at this
  rw [et, eu, rf_eq (S := S) (p := (p, j)) hs hj] at this
  rw [← tg_key p q ek eg]
  exact this
end Go.Proofs.Qxb6615139a
