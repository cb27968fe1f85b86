/-
  THE PLAIN THEORY OF Go's STABLE SORT (sort.stable_func: insertion sort of blocks, symMerge, rotate, swapRange): rows are functions on places. No program, no kit.
-/
namespace Go.Proofs.Qxb6615139a
namespace Plain
variable {α : Type}

/-- two places exchanged -/
def sw (d : Nat → α) (i j : Nat) : Nat → α := fun k => if k = i then d j else if k = j then d i else d k

/-- n places from a on exchanged with n places from b on -/
def swr (d : Nat → α) (a b n : Nat) : Nat → α := fun k => if a ≤ k ∧ k < a + n then d (k - a + b) else if b ≤ k ∧ k < b + n then d (k - b + a) else d k

/-- the rows [a, m) and [m, b) in the other order -/
def rot (d : Nat → α) (a m b : Nat) : Nat → α := fun k => if a ≤ k ∧ k < a + (b - m) then d (k + (m - a)) else if a + (b - m) ≤ k ∧ k < b then d (k - (b - m)) else d k

theorem at_eq (d : Nat → α) {i j : Nat} (h : i = j) : d i = d j := by rw [h]

theorem swr_zero (d : Nat → α) (a b : Nat) : swr d a b 0 = d := by
  funext k
  simp only [swr]
  rw [if_neg (by omega), if_neg (by omega)]

theorem swr_succ (d : Nat → α) (a b n : Nat) (h : a + (n + 1) ≤ b) : sw (swr d a b n) (a + n) (b + n) = swr d a b (n + 1) := by
  funext k
  simp only [sw, swr]
  repeat' split
  all_goals first | rfl | (exfalso; omega) | (exact absurd trivial (by assumption)) | (apply at_eq; omega)

theorem rot_gt (d : Nat → α) (m i j : Nat) (h : j < i) (hm : i ≤ m) (h0 : 0 < j) : rot (swr d (m - i) m j) (m - (i - j)) m (m + j) = rot d (m - i) m (m + j) := by
  funext k
  simp only [rot, swr]
  repeat' split
  all_goals first | rfl | (exfalso; omega) | (exact absurd trivial (by assumption)) | (apply at_eq; omega)

theorem rot_lt (d : Nat → α) (m i j : Nat) (h : i < j) (hm : i ≤ m) (h0 : 0 < i) : rot (swr d (m - i) (m + j - i) i) (m - i) m (m + (j - i)) = rot d (m - i) m (m + j) := by
  funext k
  simp only [rot, swr]
  repeat' split
  all_goals first | rfl | (exfalso; omega) | (exact absurd trivial (by assumption)) | (apply at_eq; omega)

theorem rot_same (d : Nat → α) (m i : Nat) (hm : i ≤ m) : swr d (m - i) m i = rot d (m - i) m (m + i) := by
  funext k
  simp only [rot, swr]
  repeat' split
  all_goals first | rfl | (exfalso; omega) | (exact absurd trivial (by assumption)) | (apply at_eq; omega)

/-- Outside [a, b) nothing turns; what stands inside came from inside. -/
def Within (a b : Nat) (d d' : Nat → α) : Prop := (∀ k, (k < a ∨ b ≤ k) → d' k = d k) ∧ ∀ k, a ≤ k → k < b → ∃ k', a ≤ k' ∧ k' < b ∧ d' k = d k'

theorem Within.refl (a b : Nat) (d : Nat → α) : Within a b d d := ⟨fun _ _ => rfl, fun k h1 h2 => ⟨k, h1, h2, rfl⟩⟩

theorem Within.trans {a b : Nat} {d d' d'' : Nat → α} (h : Within a b d d') (h' : Within a b d' d'') : Within a b d d'' :=
  ⟨fun k hk => (h'.1 k hk).trans (h.1 k hk), fun k h1 h2 => by
    obtain ⟨k', g1, g2, e⟩ := h'.2 k h1 h2
    obtain ⟨k'', g3, g4, e'⟩ := h.2 k' g1 g2
    exact ⟨k'', g3, g4, e.trans e'⟩⟩

theorem Within.wider {a b a' b' : Nat} {d d' : Nat → α} (h : Within a b d d') (ha : a' ≤ a) (hb : b ≤ b') : Within a' b' d d' :=
  ⟨fun k hk => h.1 k (by omega), fun k h1 h2 => by
    rcases Nat.lt_or_ge k a with g | g
    · exact ⟨k, h1, h2, h.1 k (Or.inl g)⟩
    · rcases Nat.lt_or_ge k b with g' | g'
      · obtain ⟨k', e1, e2, e⟩ := h.2 k g g'
        exact ⟨k', by omega, by omega, e⟩
      · exact ⟨k, h1, h2, h.1 k (Or.inr g')⟩⟩

theorem within_sw (a b : Nat) (d : Nat → α) (i j : Nat) (h1 : a ≤ i) (h2 : i < b) (h3 : a ≤ j) (h4 : j < b) : Within a b d (sw d i j) := by
  refine ⟨fun k hk => ?_, fun k g1 g2 => ?_⟩
  · simp only [sw]
    rw [if_neg (by omega), if_neg (by omega)]
  · by_cases e1 : k = i
    · exact ⟨j, h3, h4, by simp [sw, e1]⟩
    · by_cases e2 : k = j
      · exact ⟨i, h1, h2, by simp [sw, e2]; intro e; rw [e]⟩
      · exact ⟨k, g1, g2, by simp [sw, e1, e2]⟩

/-- The first N places hold the same things, in some order. -/
def PermN (N : Nat) (d d' : Nat → α) : Prop := ((List.range N).map d').Perm ((List.range N).map d)

theorem PermN.refl (N : Nat) (d : Nat → α) : PermN N d d := List.Perm.refl _
theorem PermN.trans {N : Nat} {d d' d'' : Nat → α} (h : PermN N d d') (h' : PermN N d' d'') : PermN N d d'' := List.Perm.trans h' h

theorem PermN.all {N : Nat} {d d' : Nat → α} (h : PermN N d d') {p : α → Prop} (hp : ∀ k, k < N → p (d k)) : ∀ k, k < N → p (d' k) := by
  intro k hk
  have hm : d' k ∈ (List.range N).map d' := List.mem_map.2 ⟨k, List.mem_range.2 hk, rfl⟩
  obtain ⟨k', hk', e⟩ := List.mem_map.1 (h.mem_iff.1 hm)
  rw [← e]
  exact hp k' (List.mem_range.1 hk')

theorem permN_sw (N : Nat) (d : Nat → α) (i j : Nat) (hi : i < N) (hj : j < N) : PermN N d (sw d i j) := by
  have key : ((List.range N).map (fun k => if k = i then j else if k = j then i else k)).Perm (List.range N) := by
    refine (List.perm_ext_iff_of_nodup ?_ List.nodup_range).2 ?_
    · rw [List.nodup_iff_pairwise_ne, List.pairwise_map]
      refine List.Pairwise.imp ?_ (List.nodup_iff_pairwise_ne.1 (List.nodup_range (n := N)))
      intro x y hxy
      repeat' split
      all_goals omega
    · intro k
      simp only [List.mem_map, List.mem_range]
      constructor
      · rintro ⟨x, hx, rfl⟩
        repeat' split
        all_goals omega
      · intro hk
        refine ⟨if k = i then j else if k = j then i else k, ?_, ?_⟩
        · repeat' split
          all_goals omega
        · repeat' split
          all_goals omega
  have := key.map d
  rw [List.map_map] at this
  refine List.Perm.trans (List.Perm.of_eq ?_) this
  refine List.map_congr_left fun k _ => ?_
  simp only [sw, Function.comp]
  repeat' split
  all_goals rfl

/-! ### Orders -/
/-- a strict weak order: 'not less' goes through -/
structure Ord (lt : α → α → Bool) : Prop where
  irrefl : ∀ x, lt x x = false
  asymm : ∀ x y, lt x y = true → lt y x = false
  through : ∀ x y z, lt y x = false → lt z y = false → lt z x = false

variable {lt : α → α → Bool}

/-- sorted on [a, b) -/
def Srt (lt : α → α → Bool) (a b : Nat) (d : Nat → α) : Prop := ∀ i j, a ≤ i → i ≤ j → j < b → lt (d j) (d i) = false

theorem Srt.part {a b a' b' : Nat} {d : Nat → α} (h : Srt lt a b d) (ha : a ≤ a') (hb : b' ≤ b) : Srt lt a' b' d := fun i j h1 h2 h3 => h i j (by omega) h2 (by omega)

theorem Srt.congr {a b : Nat} {d d' : Nat → α} (h : Srt lt a b d) (e : ∀ k, a ≤ k → k < b → d' k = d k) : Srt lt a b d' := fun i j h1 h2 h3 => by
  rw [e j (by omega) h3, e i h1 (by omega)]; exact h i j h1 h2 h3

theorem srt_one (hO : Ord lt) (a b : Nat) (h : b ≤ a + 1) (d : Nat → α) : Srt lt a b d := fun i j h1 h2 h3 => by
  have : i = j := by omega
  rw [this]; exact hO.irrefl _

/-! ### Insertion -/
/-- In the inner loop: place j holds what is being moved; the rest of [a, i] is sorted; nothing behind j is less than it. -/
def Ins (lt : α → α → Bool) (a i j : Nat) (d : Nat → α) : Prop :=
  (∀ p q, a ≤ p → p ≤ q → q ≤ i → p ≠ j → q ≠ j → lt (d q) (d p) = false) ∧ ∀ q, j < q → q ≤ i → lt (d q) (d j) = false

theorem Ins.start {a i : Nat} {d : Nat → α} (h : Srt lt a i d) : Ins lt a i i d :=
  ⟨fun p q h1 h2 h3 h4 h5 => h p q h1 h2 (by omega), fun q h1 h2 => by omega⟩

theorem Ins.step (hO : Ord lt) {a i j : Nat} {d : Nat → α} (h : Ins lt a i j d) (hj : a < j) (hji : j ≤ i) (hl : lt (d j) (d (j - 1)) = true) : Ins lt a i (j - 1) (sw d j (j - 1)) := by
  have v : ∀ k, sw d j (j - 1) k = if k = j then d (j - 1) else if k = j - 1 then d j else d k := fun k => rfl
  refine ⟨fun p q h1 h2 h3 h4 h5 => ?_, fun q h1 h2 => ?_⟩
  · rw [v, v, if_neg h4, if_neg h5]
    by_cases ep : p = j
    · by_cases eq : q = j
      · rw [if_pos ep, if_pos eq]; exact hO.irrefl _
      · rw [if_pos ep, if_neg eq]; exact h.1 (j - 1) q (by omega) (by omega) h3 (by omega) eq
    · by_cases eq : q = j
      · rw [if_neg ep, if_pos eq]; exact h.1 p (j - 1) h1 (by omega) (by omega) ep (by omega)
      · rw [if_neg ep, if_neg eq]; exact h.1 p q h1 h2 h3 ep eq
  · rw [v, v, if_neg (show ¬ j - 1 = j by omega), if_pos rfl]
    by_cases eq : q = j
    · rw [if_pos eq]; exact hO.asymm _ _ hl
    · rw [if_neg eq, if_neg (by omega)]; exact h.2 q (by omega) h2

theorem Ins.stop (hO : Ord lt) {a i j : Nat} {d : Nat → α} (h : Ins lt a i j d) (_haj : a ≤ j) (hl : j = a ∨ lt (d j) (d (j - 1)) = false) : Srt lt a (i + 1) d := by
  intro p q h1 h2 h3
  by_cases ep : p = j
  · by_cases eq : q = j
    · rw [ep, eq]; exact hO.irrefl _
    · rw [ep]; exact h.2 q (by omega) (by omega)
  · by_cases eq : q = j
    · rcases hl with hl | hl
      · omega
      · rw [eq]
        by_cases e : p = j - 1
        · rw [e]; exact hl
        · exact hO.through _ _ _ (h.1 p (j - 1) h1 (by omega) (by omega) ep (by omega)) hl
    · exact h.1 p q h1 h2 (by omega) ep eq

/-! ### One element against a sorted row -/
/-- [a, k] one to the left, what stood at a now at k -/
def rl (d : Nat → α) (a k : Nat) : Nat → α := fun t => if a ≤ t ∧ t < k then d (t + 1) else if t = k then d a else d t
theorem rl_start (d : Nat → α) (a : Nat) : rl d a a = d := by
  funext t
  simp only [rl]
  rw [if_neg (by omega)]
  split
  · apply at_eq; omega
  · rfl
theorem rl_step (d : Nat → α) (a k : Nat) (h : a ≤ k) : sw (rl d a k) k (k + 1) = rl d a (k + 1) := by
  funext t
  simp only [sw, rl]
  repeat' split
  all_goals first | rfl | (exfalso; omega) | (exact absurd trivial (by assumption)) | (apply at_eq; omega)
/-- [k, m] one to the right, what stood at m now at k -/
def rr (d : Nat → α) (m k : Nat) : Nat → α := fun t => if t = k then d m else if k < t ∧ t ≤ m then d (t - 1) else d t
theorem rr_start (d : Nat → α) (m : Nat) : rr d m m = d := by
  funext t
  simp only [rr]
  split
  · apply at_eq; omega
  · rw [if_neg (by omega)]
theorem rr_step (d : Nat → α) (m k : Nat) (h : k ≤ m) (h0 : 0 < k) : sw (rr d m k) k (k - 1) = rr d m (k - 1) := by
  funext t
  simp only [sw, rr]
  repeat' split
  all_goals first | rfl | (exfalso; omega) | (exact absurd trivial (by assumption)) | (apply at_eq; omega)

/-- d a laid in among the sorted [a + 1, b): what stands ahead of i is less than it, what stands from i on is not. -/
theorem srt_rl (hO : Ord lt) {a b i : Nat} {d : Nat → α} (h : Srt lt (a + 1) b d) (h1 : a + 1 ≤ i) (h2 : i ≤ b) (hlo : i = a + 1 ∨ lt (d (i - 1)) (d a) = true) (hhi : i = b ∨ lt (d i) (d a) = false) : Srt lt a b (rl d a (i - 1)) := by
  have lo : ∀ k, a + 1 ≤ k → k < i → lt (d a) (d k) = false := fun k g1 g2 => by
    rcases hlo with e | e
    · omega
    · exact hO.through _ _ _ (h k (i - 1) g1 (by omega) (by omega)) (hO.asymm _ _ e)
  have hi : ∀ k, i ≤ k → k < b → lt (d k) (d a) = false := fun k g1 g2 => by
    rcases hhi with e | e
    · omega
    · exact hO.through _ _ _ e (h i k (by omega) g1 g2)
  have v : ∀ t, rl d a (i - 1) t = if a ≤ t ∧ t < i - 1 then d (t + 1) else if t = i - 1 then d a else d t := fun t => rfl
  intro p q g1 g2 g3
  rw [v, v]
  by_cases c1 : a ≤ q ∧ q < i - 1
  · rw [if_pos c1, if_pos (by omega)]; exact h _ _ (by omega) (by omega) (by omega)
  · rw [if_neg c1]
    by_cases c2 : q = i - 1
    · rw [if_pos c2]
      by_cases c3 : a ≤ p ∧ p < i - 1
      · rw [if_pos c3]; exact lo _ (by omega) (by omega)
      · rw [if_neg c3, if_pos (by omega)]; exact hO.irrefl _
    · rw [if_neg c2]
      by_cases c3 : a ≤ p ∧ p < i - 1
      · rw [if_pos c3]; exact h _ _ (by omega) (by omega) (by omega)
      · rw [if_neg c3]
        by_cases c4 : p = i - 1
        · rw [if_pos c4]; exact hi _ (by omega) (by omega)
        · rw [if_neg c4]; exact h _ _ (by omega) (by omega) (by omega)

/-- d m laid in among the sorted [a, m) -/
theorem srt_rr (hO : Ord lt) {a m i : Nat} {d : Nat → α} (h : Srt lt a m d) (h1 : a ≤ i) (h2 : i ≤ m) (hlo : i = a ∨ lt (d m) (d (i - 1)) = false) (hhi : i = m ∨ lt (d m) (d i) = true) : Srt lt a (m + 1) (rr d m i) := by
  have lo : ∀ k, a ≤ k → k < i → lt (d m) (d k) = false := fun k g1 g2 => by
    rcases hlo with e | e
    · omega
    · exact hO.through _ _ _ (h k (i - 1) g1 (by omega) (by omega)) e
  have hi : ∀ k, i ≤ k → k < m → lt (d k) (d m) = false := fun k g1 g2 => by
    rcases hhi with e | e
    · omega
    · exact hO.through _ _ _ (hO.asymm _ _ e) (h i k (by omega) g1 g2)
  have v : ∀ t, rr d m i t = if t = i then d m else if i < t ∧ t ≤ m then d (t - 1) else d t := fun t => rfl
  intro p q g1 g2 g3
  rw [v, v]
  by_cases c1 : q = i
  · rw [if_pos c1]
    by_cases c2 : p = i
    · rw [if_pos c2]; exact hO.irrefl _
    · rw [if_neg c2, if_neg (by omega)]; exact lo _ (by omega) (by omega)
  · rw [if_neg c1]
    by_cases c3 : i < q ∧ q ≤ m
    · rw [if_pos c3]
      by_cases c2 : p = i
      · rw [if_pos c2]; exact hi _ (by omega) (by omega)
      · rw [if_neg c2]
        by_cases c4 : i < p ∧ p ≤ m
        · rw [if_pos c4]; exact h _ _ (by omega) (by omega) (by omega)
        · rw [if_neg c4]; exact h _ _ (by omega) (by omega) (by omega)
    · rw [if_neg c3, if_neg (by omega), if_neg (by omega)]; exact h _ _ (by omega) (by omega) (by omega)

/-! ### symMerge: the general step -/
/-- What the search hands on: s ahead of which the left row stays, e = n - s up to which the right row comes over. -/
structure Cut (lt : α → α → Bool) (a m b mid s e : Nat) (d : Nat → α) : Prop where
  lo : a ≤ s
  ls : s ≤ m
  me : m ≤ e
  eb : e ≤ b
  sm : s ≤ mid
  sum : s + e = mid + m
  left : s = a ∨ e = b ∨ lt (d e) (d (s - 1)) = false
  right : s = m ∨ e = m ∨ lt (d (e - 1)) (d s) = true

/-- behind the rotation: two halves, each of two sorted rows; nothing on the right is less than anything on the left -/
theorem cut_left (hO : Ord lt) {a m b mid s e : Nat} {d : Nat → α} (c : Cut lt a m b mid s e d) (h1 : Srt lt a m d) (h2 : Srt lt m b d) :
    Srt lt a s (rot d s m e) ∧ Srt lt s mid (rot d s m e) ∧ Srt lt mid e (rot d s m e) ∧ Srt lt e b (rot d s m e) ∧ ∀ p q, a ≤ p → p < mid → mid ≤ q → q < b → lt (rot d s m e q) (rot d s m e p) = false := by
  obtain ⟨lo, ls, me, eb, sm, sum, left, right⟩ := c
  have v : ∀ k, rot d s m e k = if s ≤ k ∧ k < s + (e - m) then d (k + (m - s)) else if s + (e - m) ≤ k ∧ k < e then d (k - (e - m)) else d k := fun k => rfl
  have x1 : ∀ k, k < s → rot d s m e k = d k := fun k h => by rw [v, if_neg (by omega), if_neg (by omega)]
  have x2 : ∀ k, s ≤ k → k < mid → rot d s m e k = d (k + (m - s)) := fun k h h' => by rw [v, if_pos (by omega)]
  have x3 : ∀ k, mid ≤ k → k < e → rot d s m e k = d (k - (e - m)) := fun k h h' => by rw [v, if_neg (by omega), if_pos (by omega)]
  have x4 : ∀ k, e ≤ k → rot d s m e k = d k := fun k h => by rw [v, if_neg (by omega), if_neg (by omega)]
  refine ⟨fun i j g1 g2 g3 => ?_, fun i j g1 g2 g3 => ?_, fun i j g1 g2 g3 => ?_, fun i j g1 g2 g3 => ?_, fun p q g1 g2 g3 g4 => ?_⟩
  · rw [x1 _ g3, x1 _ (by omega)]; exact h1 _ _ g1 g2 (by omega)
  · rw [x2 _ (by omega) g3, x2 _ g1 (by omega)]; exact h2 _ _ (by omega) (by omega) (by omega)
  · rw [x3 _ (by omega) g3, x3 _ g1 (by omega)]; exact h1 _ _ (by omega) (by omega) (by omega)
  · rw [x4 _ (by omega), x4 _ g1]; exact h2 _ _ (by omega) (by omega) (by omega)
  · rcases Nat.lt_or_ge p s with hp | hp
    · rw [x1 _ hp]
      rcases Nat.lt_or_ge q e with hq | hq
      · rw [x3 _ g3 hq]; exact h1 _ _ g1 (by omega) (by omega)
      · rw [x4 _ hq]
        rcases left with h | h | h
        · omega
        · omega
        · exact hO.through _ _ _ (hO.through _ _ _ (h1 p (s - 1) g1 (by omega) (by omega)) h) (h2 e q (by omega) hq g4)
    · rw [x2 _ hp g2]
      rcases Nat.lt_or_ge q e with hq | hq
      · rw [x3 _ g3 hq]
        rcases right with h | h | h
        · omega
        · omega
        · exact hO.through _ _ _ (hO.through _ _ _ (h2 (p + (m - s)) (e - 1) (by omega) (by omega) (by omega)) (hO.asymm _ _ h)) (h1 s (q - (e - m)) (by omega) (by omega) (by omega))
      · rw [x4 _ hq]; exact h2 _ _ (by omega) (by omega) g4

/-- two sorted halves, nothing on the right less than anything on the left -/
theorem srt_join {a mid b : Nat} {d : Nat → α} (h1 : Srt lt a mid d) (h2 : Srt lt mid b d) (hx : ∀ p q, a ≤ p → p < mid → mid ≤ q → q < b → lt (d q) (d p) = false) : Srt lt a b d := fun i j g1 g2 g3 => by
  rcases Nat.lt_or_ge j mid with hj | hj
  · exact h1 i j g1 g2 hj
  · rcases Nat.lt_or_ge i mid with hi | hi
    · exact hx i j g1 hi hj g3
    · exact h2 i j hi g2 g3

/-- the order across the middle stands where each half is turned within itself -/
theorem cross_within {a mid b : Nat} {d d' : Nat → α} (hx : ∀ p q, a ≤ p → p < mid → mid ≤ q → q < b → lt (d q) (d p) = false) (hw : Within a mid d d' ∨ Within mid b d d') : ∀ p q, a ≤ p → p < mid → mid ≤ q → q < b → lt (d' q) (d' p) = false := by
  intro p q g1 g2 g3 g4
  rcases hw with hw | hw
  · rw [hw.1 q (Or.inr g3)]
    obtain ⟨p', e1, e2, e⟩ := hw.2 p g1 g2
    rw [e]; exact hx p' q e1 e2 g3 g4
  · rw [hw.1 p (Or.inl g2)]
    obtain ⟨q', e1, e2, e⟩ := hw.2 q g3 g4
    rw [e]; exact hx p q' g1 g2 e1 e2

theorem rot_none (d : Nat → α) (s m e : Nat) (h1 : s ≤ m) (h2 : m ≤ e) (h : s = m ∨ m = e) : rot d s m e = d := by
  funext k
  simp only [rot]
  rcases h with h | h
  · subst h
    repeat' split
    all_goals first | rfl | (apply at_eq; omega)
  · subst h
    repeat' split
    all_goals first | rfl | (apply at_eq; omega) | (exfalso; omega)

theorem within_rot (d : Nat → α) (a b s m e : Nat) (h0 : a ≤ s) (h1 : s ≤ m) (h2 : m ≤ e) (h3 : e ≤ b) : Within a b d (rot d s m e) := by
  refine ⟨fun k hk => ?_, fun k g1 g2 => ?_⟩
  · simp only [rot]
    rw [if_neg (by omega), if_neg (by omega)]
  · simp only [rot]
    split
    · exact ⟨_, by omega, by omega, rfl⟩
    · split
      · exact ⟨_, by omega, by omega, rfl⟩
      · exact ⟨_, g1, g2, rfl⟩

/-! ### the blocks -/
/-- every block of width B is sorted -/
def Blocks (lt : α → α → Bool) (N B : Nat) (d : Nat → α) : Prop := ∀ q i j, q * B ≤ i → i ≤ j → j < q * B + B → j < N → lt (d j) (d i) = false

end Plain
end Go.Proofs.Qxb6615139a
