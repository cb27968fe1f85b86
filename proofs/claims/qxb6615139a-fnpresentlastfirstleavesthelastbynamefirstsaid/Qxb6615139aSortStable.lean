/-
  symMerge_func, whole; stable_func.
-/
import Derived.Test.Qxb6615139aSortSym3
namespace Go.Proofs.Qxb6615139a
open Go.RowKit Plain

theorem SymTo.mono {lb sb : Array Value} {W0 : World} {blk N : Nat} {ok : Nat × Nat → Prop} {lt : Nat × Nat → Nat × Nat → Bool} {u v : Nat} (h : SymTo lb sb W0 blk N ok lt v) (huv : u ≤ v) : SymTo lb sb W0 blk N ok lt u :=
  fun a m b d w h1 h2 h3 h4 h5 h6 h7 => h a m b d w h1 h2 h3 (by omega) h5 h6 h7

theorem sym_all (W0 : World) (blk N : Nat) (ok : Nat × Nat → Prop) (lt : Nat × Nat → Nat × Nat → Bool) (hO : Ord lt) (lb sb : Array Value) (hN : N ≤ 1048576) (hsw : SwapOk sb blk N) (hle : LessOk lb W0 blk N ok lt) : ∀ width, SymTo lb sb W0 blk N ok lt width := by
  intro width
  induction width with
  | zero => intro a m b d w h1 h2 h3 h4; omega
  | succ n ih =>
    intro a m b d w h1 h2 h3 h4 h5 h6 h7
    by_cases c1 : m = a + 1
    · subst c1
      have := sym_left W0 blk N ok lt hO lb sb hN hsw hle a b h2 h3 d w h5 h7
      rwa [show (a : Int) + 1 = ((a + 1 : Nat) : Int) by omega] at this
    · by_cases c2 : b = m + 1
      · subst c2
        have := sym_right W0 blk N ok lt hO lb sb hN hsw hle a m (by omega) h3 d w h5 h6
        rwa [show (m : Int) + 1 = ((m + 1 : Nat) : Int) by omega] at this
      · have hI : SymTo lb sb W0 blk N ok lt (b - a) := ih.mono (by omega)
        by_cases c3 : (a + b) / 2 < m
        · exact sym_hi W0 blk N ok lt hO lb sb hN hsw hle a m b ((a + b) / 2) (by omega) (by omega) h3 (by omega) c3 hI d w h5 h6 h7
        · exact sym_lo W0 blk N ok lt hO lb sb hN hsw hle a m b ((a + b) / 2) (by omega) (by omega) h3 (by omega) (by omega) hI d w h5 h6 h7

theorem sym_any (W0 : World) (blk N : Nat) (ok : Nat × Nat → Prop) (lt : Nat × Nat → Nat × Nat → Bool) (hO : Ord lt) (lb sb : Array Value) (hN : N ≤ 1048576) (hsw : SwapOk sb blk N) (hle : LessOk lb W0 blk N ok lt) (a m b : Nat) (x y z : Int) (hx : (a : Int) = x) (hy : (m : Int) = y) (hz : (b : Int) = z) (h1 : a < m) (h2 : m < b) (h3 : b ≤ N) (d : Nat → Nat × Nat) (w : World) (h : St W0 blk N ok d w) (hs1 : Srt lt a m d) (hs2 : Srt lt m b d) :
    Calls Try.prog 45 #[.agg #[.func (.func 30) #[] lb, .func (.func 43) #[] sb], .int .i64 x, .int .i64 y, .int .i64 z] w fun e w' => e = .returned (.tuple #[]) ∧ Sorts W0 blk N ok lt a b d w w' := by
  subst hx hy hz
  exact sym_all W0 blk N ok lt hO lb sb hN hsw hle (b - a + 1) a m b d w h1 h2 h3 (by omega) h hs1 hs2

theorem ins_any (W0 : World) (blk N : Nat) (ok : Nat × Nat → Prop) (lt : Nat × Nat → Nat × Nat → Bool) (hO : Ord lt) (lb sb : Array Value) (hN : N ≤ 1048576) (hsw : SwapOk sb blk N) (hle : LessOk lb W0 blk N ok lt) (a b : Nat) (x y : Int) (hx : (a : Int) = x) (hy : (b : Int) = y) (h1 : a ≤ b) (h3 : b ≤ N) (d : Nat → Nat × Nat) (w : World) (h : St W0 blk N ok d w) :
    Calls Try.prog 44 #[.agg #[.func (.func 30) #[] lb, .func (.func 43) #[] sb], .int .i64 x, .int .i64 y] w fun e w' => e = .returned (.tuple #[]) ∧ Sorts W0 blk N ok lt a b d w w' := by
  subst hx hy
  exact insertion_any W0 blk N ok lt hO lb sb hN hsw hle a b h1 h3 d w h

namespace Plain
variable {α : Type} {lt : α → α → Bool}

/-- the first q blocks of 20 are sorted -/
def Firsts (lt : α → α → Bool) (q : Nat) (d : Nat → α) : Prop := ∀ t, t < q → Srt lt (t * 20) (t * 20 + 20) d

theorem firsts_step {q : Nat} {d d' : Nat → α} (h : Firsts lt q d) (hw : Within (q * 20) (q * 20 + 20) d d') (hs : Srt lt (q * 20) (q * 20 + 20) d') : Firsts lt (q + 1) d' := fun t ht => by
  rcases Nat.lt_succ_iff_lt_or_eq.1 ht with h1 | rfl
  · exact (h t h1).congr fun k _ hk => hw.1 k (Or.inl (by omega))
  · exact hs

theorem firsts_last {q N : Nat} {d d' : Nat → α} (h : Firsts lt q d) (hq : N < q * 20 + 20) (hw : Within (q * 20) N d d') (hs : Srt lt (q * 20) N d') : Blocks lt N 20 d' := fun t i j h1 h2 h3 h4 => by
  rcases Nat.lt_or_ge t q with ht | ht
  · exact ((h t ht).congr fun k _ hk => hw.1 k (Or.inl (by omega))) i j h1 h2 h3
  · have : t = q := by omega
    subst this
    exact hs i j h1 h2 h4

/-- halfway through a pass: ahead of A blocks of 2B, from A on blocks of B -/
structure Half (lt : α → α → Bool) (N B A : Nat) (d : Nat → α) : Prop where
  mult : ∃ c, A = c * (2 * B)
  done : ∀ q i j, q * (2 * B) ≤ i → i ≤ j → j < q * (2 * B) + 2 * B → j < A → lt (d j) (d i) = false
  todo : ∀ q i j, A ≤ q * B → q * B ≤ i → i ≤ j → j < q * B + B → j < N → lt (d j) (d i) = false

theorem half_start {N B : Nat} {d : Nat → α} (h : Blocks lt N B d) : Half lt N B 0 d :=
  ⟨⟨0, by simp⟩, fun q i j _ _ _ h4 => by omega, fun q i j _ h1 h2 h3 h4 => h q i j h1 h2 h3 h4⟩

theorem half_pre {N B A : Nat} {d : Nat → α} (h : Half lt N B A d) (b : Nat) (hb : b ≤ A + 2 * B) (hN : b ≤ N) (hA : A + B ≤ b) : Srt lt A (A + B) d ∧ Srt lt (A + B) b d := by
  obtain ⟨c, hc⟩ := h.mult
  have e1 : 2 * c * B = A := by rw [hc, Nat.mul_comm 2 c, Nat.mul_assoc]
  have e2 : (2 * c + 1) * B = A + B := by rw [Nat.add_mul, e1, Nat.one_mul]
  exact ⟨fun i j h1 h2 h3 => h.todo (2 * c) i j (by omega) (by omega) h2 (by omega) (by omega), fun i j h1 h2 h3 => h.todo (2 * c + 1) i j (by omega) (by omega) h2 (by omega) (by omega)⟩

theorem half_step {N B A : Nat} {d d' : Nat → α} (h : Half lt N B A d) (_hB : 0 < B) (hw : Within A (A + 2 * B) d d') (hs : Srt lt A (A + 2 * B) d') : Half lt N B (A + 2 * B) d' := by
  obtain ⟨c, hc⟩ := h.mult
  refine ⟨⟨c + 1, by rw [Nat.add_mul, Nat.one_mul, hc]⟩, fun q i j h1 h2 h3 h4 => ?_, fun q i j h0 h1 h2 h3 h4 => ?_⟩
  · rcases Nat.lt_or_ge j A with hj | hj
    · rw [hw.1 j (Or.inl hj), hw.1 i (Or.inl (by omega))]
      exact h.done q i j h1 h2 h3 hj
    · have q1 : c < q + 1 := by
        refine Nat.lt_of_mul_lt_mul_right (a := 2 * B) ?_
        rw [Nat.add_mul, Nat.one_mul]
        omega
      have q2 : q < c + 1 := by
        refine Nat.lt_of_mul_lt_mul_right (a := 2 * B) ?_
        rw [Nat.add_mul, Nat.one_mul]
        omega
      have : q = c := by omega
      subst this
      exact hs i j (by omega) h2 (by omega)
  · rw [hw.1 j (Or.inr (by omega)), hw.1 i (Or.inr (by omega))]
    exact h.todo q i j (by omega) h1 h2 h3 h4

/-- the pass's end, the rest [A, N) sorted -/
theorem half_end {N B A : Nat} {d d' : Nat → α} (h : Half lt N B A d) (_hB : 0 < B) (_hA : N < A + 2 * B) (hw : Within A N d d') (hs : Srt lt A N d') : Blocks lt N (2 * B) d' := by
  obtain ⟨c, hc⟩ := h.mult
  intro q i j h1 h2 h3 h4
  rcases Nat.lt_or_ge j A with hj | hj
  · rw [hw.1 j (Or.inl hj), hw.1 i (Or.inl (by omega))]
    exact h.done q i j h1 h2 h3 hj
  · have q1 : c < q + 1 := by
      refine Nat.lt_of_mul_lt_mul_right (a := 2 * B) ?_
      rw [Nat.add_mul, Nat.one_mul]
      omega
    have q2 : c * (2 * B) ≤ q * (2 * B) := Nat.mul_le_mul_right _ (by omega)
    exact hs i j (by omega) h2 h4

theorem half_tail {N B A : Nat} {d : Nat → α} (h : Half lt N B A d) (hN : N ≤ A + B) : Srt lt A N d := by
  obtain ⟨c, hc⟩ := h.mult
  have e1 : 2 * c * B = A := by rw [hc, Nat.mul_comm 2 c, Nat.mul_assoc]
  exact fun i j h1 h2 h3 => h.todo (2 * c) i j (by omega) (by omega) h2 (by omega) (by omega)

theorem blocks_all {N B : Nat} {d : Nat → α} (h : Blocks lt N B d) (hB : N ≤ B) : Srt lt 0 N d := fun i j _ h2 h3 => h 0 i j (by omega) h2 (by omega) h3
end Plain

set_option maxHeartbeats 4000000 in
set_option maxRecDepth 100000 in
theorem stable_any (W0 : World) (blk N : Nat) (ok : Nat × Nat → Prop) (lt : Nat × Nat → Nat × Nat → Bool) (hO : Ord lt) (lb sb : Array Value) (hN : N ≤ 1048576) (hsw : SwapOk sb blk N) (hle : LessOk lb W0 blk N ok lt) (d : Nat → Nat × Nat) (w : World) (h : St W0 blk N ok d w) :
    Calls Try.prog 33 #[.agg #[.func (.func 30) #[] lb, .func (.func 43) #[] sb], .int .i64 N] w fun e w' => e = .returned (.tuple #[]) ∧ ∃ d', Did W0 blk N ok d d' w w' ∧ Srt lt 0 N d' := by
  have hblk : blk < w.heap.size := Nat.lt_of_lt_of_le h.lt h.kp.size
  have HI : Hid (∀ (a b : Nat) (x y : Int), (a : Int) = x → (b : Int) = y → a ≤ b → b ≤ N → ∀ (d : Nat → Nat × Nat) (w : World), St W0 blk N ok d w →
    Calls Try.prog 44 #[.agg #[.func (.func 30) #[] lb, .func (.func 43) #[] sb], .int .i64 x, .int .i64 y] w fun e w' => e = .returned (.tuple #[]) ∧ Sorts W0 blk N ok lt a b d w w') := fun a b x y hx hy h1 h3 d w h => ins_any W0 blk N ok lt hO lb sb hN hsw hle a b x y hx hy h1 h3 d w h
  have HM : Hid (∀ (a m b : Nat) (x y z : Int), (a : Int) = x → (m : Int) = y → (b : Int) = z → a < m → m < b → b ≤ N → ∀ (d : Nat → Nat × Nat) (w : World), St W0 blk N ok d w → Srt lt a m d → Srt lt m b d →
    Calls Try.prog 45 #[.agg #[.func (.func 30) #[] lb, .func (.func 43) #[] sb], .int .i64 x, .int .i64 y, .int .i64 z] w fun e w' => e = .returned (.tuple #[]) ∧ Sorts W0 blk N ok lt a b d w w') := fun a m b x y z hx hy hz h1 h2 h3 d w h hs1 hs2 => sym_any W0 blk N ok lt hO lb sb hN hsw hle a m b x y z hx hy hz h1 h2 h3 d w h hs1 hs2
  have HO : Hid (Ord lt) := hO
  have H0 : Hid (St W0 blk N ok d (w.alloc (box lb sb))) := h.alloc _
  clear h hsw hle hO
  go_enter Try.func33, Try.ntmps33
  go_wp2
  go_loopw [5, 6] (fun va vb wr => ∃ (q : Nat) (dk : Nat → Nat × Nat), va = .int .i64 ((q * 20 : Nat) : Int) ∧ vb = .int .i64 (((q * 20 : Nat) : Int) + 20) ∧ q * 20 ≤ N ∧ Did W0 blk N ok d dk (w.alloc (box lb sb)) wr ∧ Firsts lt q dk) (fun va _ _ => N + 20 - (intOf va).toNat)
  case atStart => exact ⟨0, d, rfl, rfl, by omega, Did.refl H0.out, fun t ht => by omega⟩
  case round =>
    obtain ⟨q, dk, rfl, rfl, hq, hD, hF⟩ := hrel
    have HD : Hid (Did W0 blk N ok d dk (w.alloc (box lb sb)) wr) := hD
    have HF : Hid (Firsts lt q dk) := hF
    obtain ⟨hc0, hc1⟩ := box_cells hblk hD.kp
    clear hD hF
    by_cases hlt : q * 20 + 20 ≤ N
    · go_wp2_with fail
      refine (HI.out (q * 20) (q * 20 + 20) _ _ (by omega) (by omega) (by omega) hlt dk wr HD.out.st).mono ?_
      rintro e w1 ⟨rfl, ⟨d1, hd1, hw1, hs1⟩⟩
      have HD1 : Hid (Did W0 blk N ok d d1 (w.alloc (box lb sb)) w1) := HD.out.trans hd1
      have HF1 : Hid (Firsts lt (q + 1) d1) := firsts_step HF.out hw1 hs1
      clear hd1 hw1 hs1
      go_wp2
      exact ⟨⟨q + 1, d1, ie (by omega), ie (by omega), by omega, HD1.out, HF1.out⟩, by simp [intOf]; omega⟩
    · go_wp2_with fail
      refine (HI.out (q * 20) N _ _ (by omega) (by omega) hq (Nat.le_refl _) dk wr HD.out.st).mono ?_
      rintro e w1 ⟨rfl, ⟨d1, hd1, hw1, hs1⟩⟩
      have HD1 : Hid (Did W0 blk N ok d d1 (w.alloc (box lb sb)) w1) := HD.out.trans hd1
      have HF1 : Hid (Blocks lt N 20 d1) := firsts_last HF.out (by omega) hw1 hs1
      clear hd1 hw1 hs1 HD HF hc0 hc1
      go_wp2
      go_loopw [4] (fun vb wr => ∃ (B : Nat) (dk : Nat → Nat × Nat), vb = .int .i64 B ∧ 0 < B ∧ B ≤ 2 * N + 20 ∧ Did W0 blk N ok d dk (w.alloc (box lb sb)) wr ∧ Blocks lt N B dk) (fun vb _ => N - (intOf vb).toNat)
      case atStart => exact ⟨20, d1, rfl, by omega, by omega, HD1.out, HF1.out⟩
      case round =>
        obtain ⟨B, dk, rfl, hB0, hBN, hD, hF⟩ := hrel
        have HD : Hid (Did W0 blk N ok d dk (w.alloc (box lb sb)) wr) := hD
        have HF : Hid (Blocks lt N B dk) := hF
        clear hD hF HD1 HF1
        by_cases hBlt : B < N
        · go_wp2
          go_loopw [5, 6] (fun va vb wr => ∃ (A : Nat) (dk : Nat → Nat × Nat), va = .int .i64 A ∧ vb = .int .i64 ((A : Int) + 2 * B) ∧ A ≤ N ∧ Did W0 blk N ok d dk (w.alloc (box lb sb)) wr ∧ Half lt N B A dk) (fun va _ _ => N + 1 - (intOf va).toNat)
          case atStart => exact ⟨0, dk, rfl, ie (by omega), by omega, HD.out, half_start HF.out⟩
          case round =>
            obtain ⟨A, dk, rfl, rfl, hA, hD2, hF2⟩ := hrel
            have HD2 : Hid (Did W0 blk N ok d dk (w.alloc (box lb sb)) wr) := hD2
            have HF2 : Hid (Half lt N B A dk) := hF2
            obtain ⟨hc0, hc1⟩ := box_cells hblk hD2.kp
            clear hD2 hF2
            by_cases hlA : A + 2 * B ≤ N
            · have HP : Hid (Srt lt A (A + B) dk ∧ Srt lt (A + B) (A + 2 * B) dk) := half_pre HF2.out (A + 2 * B) (Nat.le_refl _) hlA (by omega)
              go_wp2_with fail
              refine (HM.out A (A + B) (A + 2 * B) _ _ _ (by omega) (by omega) (by omega) (by omega) (by omega) hlA dk wr HD2.out.st HP.out.1 HP.out.2).mono ?_
              rintro e w2 ⟨rfl, ⟨d2, hd2, hw2, hs2⟩⟩
              have HD3 : Hid (Did W0 blk N ok d d2 (w.alloc (box lb sb)) w2) := HD2.out.trans hd2
              have HF3 : Hid (Half lt N B (A + 2 * B) d2) := half_step HF2.out hB0 hw2 hs2
              clear hd2 hw2 hs2
              go_wp2
              exact ⟨⟨A + 2 * B, d2, ie (by omega), ie (by omega), by omega, HD3.out, HF3.out⟩, by simp [intOf]; omega⟩
            · by_cases hmN : A + B < N
              · have HP : Hid (Srt lt A (A + B) dk ∧ Srt lt (A + B) N dk) := half_pre HF2.out N (by omega) (Nat.le_refl _) (by omega)
                go_wp2_with fail
                refine (HM.out A (A + B) N _ _ _ (by omega) (by omega) (by omega) (by omega) (by omega) (Nat.le_refl _) dk wr HD2.out.st HP.out.1 HP.out.2).mono ?_
                rintro e w2 ⟨rfl, ⟨d2, hd2, hw2, hs2⟩⟩
                have HD3 : Hid (Did W0 blk N ok d d2 (w.alloc (box lb sb)) w2) := HD2.out.trans hd2
                have HF3 : Hid (Blocks lt N (2 * B) d2) := half_end HF2.out hB0 (by omega) hw2 hs2
                clear hd2 hw2 hs2
                go_wp2
                exact ⟨⟨2 * B, d2, ie (by omega), by omega, by omega, HD3.out, HF3.out⟩, by simp [intOf]; omega⟩
              · have HF3 : Hid (Blocks lt N (2 * B) dk) := half_end HF2.out hB0 (by omega) (Within.refl _ _ _) (half_tail HF2.out (by omega))
                go_wp2
                exact ⟨⟨2 * B, dk, ie (by omega), by omega, by omega, HD2.out, HF3.out⟩, by simp [intOf]; omega⟩
        · go_wp2
          go_end0
          exact ⟨rfl, dk, HD.out.boxed, blocks_all HF.out (by omega)⟩
end Go.Proofs.Qxb6615139a
