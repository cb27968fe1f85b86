/-
  sameRef, tripleGreater; the order of references.
-/
import Derived.Test.Qxb6615139aData
import Derived.Test.Qxb6615139aSortPlain
namespace Go.Proofs.Qxb6615139a
open Go.RowKit Plain

theorem bl_irrefl : ∀ x : List UInt8, Op.bytesLess x x = false
  | [] => rfl
  | a :: x => by simp [Op.bytesLess, bl_irrefl x]

theorem bl_tri : ∀ x y : List UInt8, Op.bytesLess x y = true ∨ x = y ∨ Op.bytesLess y x = true
  | [], [] => Or.inr (Or.inl rfl)
  | [], _ :: _ => Or.inl rfl
  | _ :: _, [] => Or.inr (Or.inr rfl)
  | a :: x, b :: y => by
    simp only [Op.bytesLess, Bool.or_eq_true, decide_eq_true_eq, Bool.and_eq_true, beq_iff_eq, List.cons.injEq]
    rcases bl_tri x y with h | h | h
    · rcases Nat.lt_trichotomy a.toNat b.toNat with g | g | g
      · exact Or.inl (Or.inl (UInt8.lt_iff_toNat_lt.2 g))
      · exact Or.inl (Or.inr ⟨UInt8.toNat_inj.1 g, h⟩)
      · exact Or.inr (Or.inr (Or.inl (UInt8.lt_iff_toNat_lt.2 g)))
    · rcases Nat.lt_trichotomy a.toNat b.toNat with g | g | g
      · exact Or.inl (Or.inl (UInt8.lt_iff_toNat_lt.2 g))
      · exact Or.inr (Or.inl ⟨UInt8.toNat_inj.1 g, h⟩)
      · exact Or.inr (Or.inr (Or.inl (UInt8.lt_iff_toNat_lt.2 g)))
    · rcases Nat.lt_trichotomy a.toNat b.toNat with g | g | g
      · exact Or.inl (Or.inl (UInt8.lt_iff_toNat_lt.2 g))
      · exact Or.inr (Or.inr (Or.inr ⟨(UInt8.toNat_inj.1 g).symm, h⟩))
      · exact Or.inr (Or.inr (Or.inl (UInt8.lt_iff_toNat_lt.2 g)))

theorem bl_trans : ∀ x y z : List UInt8, Op.bytesLess x y = true → Op.bytesLess y z = true → Op.bytesLess x z = true
  | [], [], _, h, _ => by simp [Op.bytesLess] at h
  | [], _ :: _, [], _, h => by simp [Op.bytesLess] at h
  | [], _ :: _, _ :: _, _, _ => rfl
  | _ :: _, [], _, h, _ => by simp [Op.bytesLess] at h
  | _ :: _, _ :: _, [], _, h => by simp [Op.bytesLess] at h
  | a :: x, b :: y, c :: z, h, h' => by
    simp only [Op.bytesLess, Bool.or_eq_true, decide_eq_true_eq, Bool.and_eq_true, beq_iff_eq] at h h' ⊢
    rcases h with h | ⟨rfl, h⟩
    · rcases h' with h' | ⟨rfl, h'⟩
      · exact Or.inl (by rw [UInt8.lt_iff_toNat_lt] at *; omega)
      · exact Or.inl h
    · rcases h' with h' | ⟨rfl, h'⟩
      · exact Or.inl h'
      · exact Or.inr ⟨rfl, bl_trans x y z h h'⟩

theorem bl_asymm (x y : List UInt8) (h : Op.bytesLess x y = true) : Op.bytesLess y x = false := by
  rcases hb : Op.bytesLess y x with _ | _
  · rfl
  · have := bl_trans x y x h hb
    rw [bl_irrefl] at this
    cases this

/-- Go's '>' on strings -/
def gtL (x y : List UInt8) : Bool := !Op.bytesLess x y && !(x == y)

theorem gtL_eq (x y : List UInt8) : gtL x y = Op.bytesLess y x := by
  unfold gtL
  rcases bl_tri x y with h | h | h
  · rw [h, bl_asymm _ _ h]; rfl
  · subst h; simp [bl_irrefl]
  · rw [h, bl_asymm _ _ h]
    have : ¬ x = y := fun e => by rw [e, bl_irrefl] at h; cases h
    simp [this]

/-- the later by name, then id, then place -/
def tg (a : Rf) (p : Nat) (b : Rf) (q : Nat) : Bool :=
  if a.name.toList = b.name.toList then (if a.id.toList = b.id.toList then decide (q < p) else gtL a.id.toList b.id.toList) else gtL a.name.toList b.name.toList

theorem tg_iff (a : Rf) (p : Nat) (b : Rf) (q : Nat) : tg a p b q = true ↔ Op.bytesLess b.name.toList a.name.toList = true ∨ (a.name.toList = b.name.toList ∧ (Op.bytesLess b.id.toList a.id.toList = true ∨ (a.id.toList = b.id.toList ∧ q < p))) := by
  unfold tg
  by_cases h1 : a.name.toList = b.name.toList
  · rw [if_pos h1]
    by_cases h2 : a.id.toList = b.id.toList
    · rw [if_pos h2]; simp [h1, h2, bl_irrefl]
    · rw [if_neg h2, gtL_eq]; simp [h1, h2, bl_irrefl]
  · rw [if_neg h1, gtL_eq]; simp [h1]

/-- three lexicographic steps: 'not greater' goes through -/
theorem tg_through (a : Rf) (p : Nat) (b : Rf) (q : Nat) (c : Rf) (r : Nat) (h1 : tg b q a p = false) (h2 : tg c r b q = false) : tg c r a p = false := by
  rcases hb : tg c r a p with _ | _
  · rfl
  · exfalso
    have n1 : ¬ tg b q a p = true := by rw [h1]; simp
    have n2 : ¬ tg c r b q = true := by rw [h2]; simp
    rw [tg_iff] at hb n1 n2
    -- names: c.name ≤ b.name ≤ a.name
    rcases bl_tri a.name.toList b.name.toList with e1 | e1 | e1
    · exact n1 (Or.inl e1)
    · rcases bl_tri b.name.toList c.name.toList with e2 | e2 | e2
      · exact n2 (Or.inl e2)
      · have i1 : ¬ Op.bytesLess a.id.toList b.id.toList = true := fun h => n1 (Or.inr ⟨e1.symm, Or.inl h⟩)
        have i2 : ¬ Op.bytesLess b.id.toList c.id.toList = true := fun h => n2 (Or.inr ⟨e2.symm, Or.inl h⟩)
        rcases hb with hb | ⟨_, hb⟩
        · rw [e1, e2, bl_irrefl] at hb; cases hb
        · rcases bl_tri a.id.toList b.id.toList with f1 | f1 | f1
          · exact i1 f1
          · rcases bl_tri b.id.toList c.id.toList with f2 | f2 | f2
            · exact i2 f2
            · have j1 : ¬ p < q := fun h => n1 (Or.inr ⟨e1.symm, Or.inr ⟨f1.symm, h⟩⟩)
              have j2 : ¬ q < r := fun h => n2 (Or.inr ⟨e2.symm, Or.inr ⟨f2.symm, h⟩⟩)
              rcases hb with hb | ⟨_, hb⟩
              · rw [f1, f2, bl_irrefl] at hb; cases hb
              · omega
            · rcases hb with hb | ⟨hb, _⟩
              · rw [f1] at hb; rw [bl_asymm _ _ hb] at f2; cases f2
              · rw [hb, f1, bl_irrefl] at f2; cases f2
          · rcases bl_tri b.id.toList c.id.toList with f2 | f2 | f2
            · exact i2 f2
            · rcases hb with hb | ⟨hb, _⟩
              · rw [f2, bl_asymm _ _ hb] at f1; cases f1
              · rw [f2, hb, bl_irrefl] at f1; cases f1
            · have := bl_trans _ _ _ f2 f1
              rcases hb with hb | ⟨hb, _⟩
              · rw [bl_asymm _ _ hb] at this; cases this
              · rw [hb, bl_irrefl] at this; cases this
      · rcases hb with hb | ⟨hb, _⟩
        · rw [e1, bl_asymm _ _ e2] at hb; cases hb
        · rw [hb, e1, bl_irrefl] at e2; cases e2
    · rcases bl_tri b.name.toList c.name.toList with e2 | e2 | e2
      · exact n2 (Or.inl e2)
      · rcases hb with hb | ⟨hb, _⟩
        · rw [← e2, bl_asymm _ _ e1] at hb; cases hb
        · rw [← hb, ← e2, bl_irrefl] at e1; cases e1
      · have := bl_trans _ _ _ e2 e1
        rcases hb with hb | ⟨hb, _⟩
        · rw [bl_asymm _ _ hb] at this; cases this
        · rw [hb, bl_irrefl] at this; cases this

theorem tg_irrefl (a : Rf) (p : Nat) : tg a p a p = false := by simp [tg]
theorem tg_asymm (a : Rf) (p : Nat) (b : Rf) (q : Nat) (h : tg a p b q = true) : tg b q a p = false := by
  rcases hb : tg b q a p with _ | _
  · rfl
  · rw [tg_iff] at h hb
    exfalso
    rcases h with h | ⟨h, h'⟩
    · rcases hb with hb | ⟨hb, _⟩
      · rw [bl_asymm _ _ h] at hb; cases hb
      · rw [hb, bl_irrefl] at h; cases h
    · rcases hb with hb | ⟨_, hb'⟩
      · rw [h, bl_irrefl] at hb; cases hb
      · rcases h' with h' | ⟨h', h''⟩
        · rcases hb' with hb' | ⟨hb', _⟩
          · rw [bl_asymm _ _ h'] at hb'; cases hb'
          · rw [hb', bl_irrefl] at h'; cases h'
        · rcases hb' with hb' | ⟨_, hb''⟩
          · rw [h', bl_irrefl] at hb'; cases hb'
          · omega

/-- only the keys count -/
theorem tg_congr {a a' b b' : Rf} (p q : Nat) (h1 : a.name.toList = a'.name.toList) (h2 : a.id.toList = a'.id.toList) (h3 : b.name.toList = b'.name.toList) (h4 : b.id.toList = b'.id.toList) : tg a p b q = tg a' p b' q := by
  unfold tg; rw [h1, h2, h3, h4]

/-- the same in all three -/
def same (a b : Rf) : Bool := a.id.toList == b.id.toList && a.ty.toList == b.ty.toList && a.name.toList == b.name.toList

theorem same_refl (a : Rf) : same a a = true := by simp [same]

theorem ret_bool {b c : Bool} (h : b = c) : Ending.returned (.bool b) = .returned (.bool c) := by rw [h]

set_option maxHeartbeats 400000 in
theorem tripleGreater_any (a b : Rf) (p q : Nat) (w : World) :
    Calls Try.prog 20 #[.agg #[.string a.id, .string a.ty, .string a.name], .int .i64 p, .agg #[.string b.id, .string b.ty, .string b.name], .int .i64 q] w fun e w' => e = .returned (.bool (tg a p b q)) ∧ Below w.heap.size w w' := by
  have hB : ∀ o1 o2, Below w.heap.size w ((w.alloc o1).alloc o2) := fun o1 o2 => ((Below.refl _ _).alloc (Nat.le_refl _) _).alloc (by simp) _
  by_cases h1 : a.name.toList = b.name.toList
  · by_cases h2 : a.id.toList = b.id.toList
    · have e : tg a p b q = decide (q < p) := by simp [tg, h1, h2]
      rw [e]
      have n1 : (!a.name.toList == b.name.toList) = false := by simp [h1]
      have n2 : (!a.id.toList == b.id.toList) = false := by simp [h2]
      clear h1 h2 e
      go_enter Try.func20, Try.ntmps20
      go_wp2
      go_ret
      exact ⟨ret_bool (by simp), hB _ _⟩
    · have e : tg a p b q = gtL a.id.toList b.id.toList := by simp [tg, h1, h2]
      rw [e]
      have n1 : (!a.name.toList == b.name.toList) = false := by simp [h1]
      have n2 : (!a.id.toList == b.id.toList) = true := by simp [h2]
      clear h1 h2 e
      go_enter Try.func20, Try.ntmps20
      go_wp2
      go_ret
      exact ⟨ret_bool (by unfold gtL; rw [n2]; simp), hB _ _⟩
  · have e : tg a p b q = gtL a.name.toList b.name.toList := by simp [tg, h1]
    rw [e]
    have n1 : (!a.name.toList == b.name.toList) = true := by simp [h1]
    clear h1 e
    go_enter Try.func20, Try.ntmps20
    go_wp2
    go_ret
    exact ⟨ret_bool (by unfold gtL; rw [n1]; simp), hB _ _⟩

set_option maxHeartbeats 400000 in
theorem sameRef_any (a b : Rf) (w : World) :
    Calls Try.prog 19 #[.agg #[.string a.id, .string a.ty, .string a.name], .agg #[.string b.id, .string b.ty, .string b.name]] w fun e w' => e = .returned (.bool (same a b)) ∧ Below w.heap.size w w' := by
  have hB : ∀ o1 o2, Below w.heap.size w ((w.alloc o1).alloc o2) := fun o1 o2 => ((Below.refl _ _).alloc (Nat.le_refl _) _).alloc (by simp) _
  unfold same
  go_enter Try.func19, Try.ntmps19
  go_wp2
  all_goals
    go_ret
    exact ⟨ret_bool (by simp [*]), hB _ _⟩
end Go.Proofs.Qxb6615139a
