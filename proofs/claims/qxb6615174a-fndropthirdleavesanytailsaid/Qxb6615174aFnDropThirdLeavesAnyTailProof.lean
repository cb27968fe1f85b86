/-
  THE PROOF OF 'Rows.FnDropThirdLeavesAnyTailSaid'.
-/
import Derived.Test.Qxb6615174aCalls
import Derived.Test.Qxb6615174aOpen
namespace Go.Proofs.Qxb6615174a.fnDropThirdLeavesAnyTail
open Go.ChangeShapes Go.WideShapes Go.ChangeAt Go.RowKit

theorem bytes15_yes (a a2 : Option Addr) (n cap n2 cap2 : Nat) (w : World) (h : n + n2 ≤ 1048576) : Calls Try.prog 15 #[.slice a n cap, .slice a2 n2 cap2] w fun e w' => e = .returned (.bool true) ∧ w = w' := by
  go_enter Try.func15, Try.ntmps15
  go_wp2
  go_ret
  exact ⟨rfl, rfl⟩

theorem bytes15_no (a a2 : Option Addr) (n cap n2 cap2 : Nat) (w : World) (h : 1048576 < n + n2) (hm : n ≤ 9223372036854775807) (hm2 : n2 ≤ 9223372036854775807) : Calls Try.prog 15 #[.slice a n cap, .slice a2 n2 cap2] w fun e w' => e = .returned (.bool false) ∧ w = w' := by
  by_cases h1 : n ≤ 1048576
  · by_cases h2 : n2 ≤ 1048576
    · go_enter Try.func15, Try.ntmps15
      go_wp2
      go_ret
      exact ⟨rfl, rfl⟩
    · go_enter Try.func15, Try.ntmps15
      go_wp2
      go_ret
      exact ⟨rfl, rfl⟩
  · go_enter Try.func15, Try.ntmps15
    go_wp2
    go_ret
    exact ⟨rfl, rfl⟩

set_option maxHeartbeats 1000000 in
theorem main (A At : Option Addr) (n cap nt capt : Nat) (x0 x1 x2 : Lt) (N T : List Lt) (w : World) (hl : N.length + 3 = n) (hlt : T.length = nt) (hn : n ≤ 32768) (hnt : nt ≤ 32768) (hL : RdAt w A (x0 :: x1 :: x2 :: N)) (hT : RdAt w At T) (hc : A = none → cap = 0) (hct : At = none → capt = 0) :
    Calls Try.prog 6 #[.slice A n cap, .slice At nt capt] w fun e w' => e = .returned (.bool true) ∧ Below w.heap.size w w' := by
  have HL : Hid (RdAt w A (x0 :: x1 :: x2 :: N)) := hL
  have HT : Hid (RdAt w At T) := hT
  have HC : Hid (A = none → cap = 0) := hc
  have HCT : Hid (At = none → capt = 0) := hct
  clear hL hT hc hct
  have HBY : Hid (Calls Try.prog 15 #[.slice A n cap, .slice At nt capt] w fun e w' => e = .returned (.bool true) ∧ w = w') := bytes15_yes A At n cap nt capt w (by omega)
  go_enter Try.func6, Try.ntmps6
  go_wp2_with (go_at_call 15; refine HBY.out.mono ?_; rintro e w' ⟨rfl, rfl⟩)
  refine (toWord_n (x0 :: x1 :: x2 :: N) _ _ _ _ (by simp; omega) (by omega) HL.out HC.out).mono ?_
  rintro e w1 ⟨a1, c1, rfl, hb1, hw1⟩
  have HB1 : Hid (Below w.heap.size w w1) := hb1
  have HW1 : Hid (WordIn w1 w.heap.size w1.heap.size a1 c1 (x0 :: x1 :: x2 :: N)) := hw1
  have hs1 : w.heap.size ≤ w1.heap.size := hb1.size
  clear hb1 hw1
  go_wp2_with fail
  refine (toWord_n T _ _ _ _ hlt (by omega) (HT.out.below HB1.out (Nat.le_refl _)) HCT.out).mono ?_
  rintro e w2 ⟨a2, c2, rfl, hb2, hw2⟩
  have HB2 : Hid (Below w.heap.size w w2) := HB1.out.trans (hb2.mono hs1)
  have HW1' : Hid (RdAt w2 a1 (x0 :: x1 :: x2 :: N)) := (HW1.out.below hb2 (Nat.le_refl _)).rd
  have HW2 : Hid (RdAt w2 a2 T) := hw2.rd
  have hs2 : w1.heap.size ≤ w2.heap.size := hb2.size
  clear hb2 hw2 HB1 HW1
  go_wp2_with fail
  refine (join_n (x0 :: x1 :: x2 :: N) T _ _ _ _ (n + nt) _ _ _ (by simp; omega) hlt rfl (by omega) (by omega) HW1'.out HW2.out).mono ?_
  rintro e w3 ⟨a3, c3, rfl, hb3, hw3⟩
  have HB3 : Hid (Below w.heap.size w w3) := HB2.out.trans (hb3.mono (by omega))
  have HW3 : Hid (WordIn w3 w2.heap.size w3.heap.size a3 c3 (x0 :: x1 :: x2 :: (N ++ T))) := hw3
  have hs3 : w2.heap.size ≤ w3.heap.size := hb3.size
  clear hb3 hw3 HB2 HW1' HW2
  go_wp2_with fail
  refine (dropThird_n _ _ x0 x1 x2 (N ++ T) _ _ (n + nt - 1) _ _ (by simp; omega) (by simp; omega) HW3.out).mono ?_
  rintro e w4 ⟨rfl, hb4, hz4, hw4⟩
  have HB4 : Hid (Below w.heap.size w w4) := HB3.out.trans (hb4.mono (by omega))
  have HW4 : Hid (WordIn w4 w2.heap.size w3.heap.size a3 c3 (x0 :: x1 :: (N ++ T))) := hw4
  clear hb4 hw4 HB3 HW3
  go_wp2_with fail
  refine (toWord_n (x0 :: x1 :: x2 :: N) _ _ _ _ (by simp; omega) (by omega) (HL.out.below HB4.out (Nat.le_refl _)) HC.out).mono ?_
  rintro e w5 ⟨a5, c5, rfl, hb5, hw5⟩
  have HB5 : Hid (Below w.heap.size w w5) := HB4.out.trans (hb5.mono (by omega))
  have HW4' : Hid (WordIn w5 w2.heap.size w3.heap.size a3 c3 (x0 :: x1 :: (N ++ T))) := HW4.out.below hb5 (by omega)
  have HW5 : Hid (WordIn w5 w4.heap.size w5.heap.size a5 c5 (x0 :: x1 :: x2 :: N)) := hw5
  have hs5 : w4.heap.size ≤ w5.heap.size := hb5.size
  clear hb5 hw5 HB4 HW4
  go_wp2_with fail
  refine (dropThird_n _ _ x0 x1 x2 N _ _ (n - 1) _ _ (by omega) (by omega) HW5.out).mono ?_
  rintro e w6 ⟨rfl, hb6, hz6, hw6⟩
  have HB6 : Hid (Below w.heap.size w w6) := HB5.out.trans (hb6.mono (by omega))
  have HW4'' : Hid (WordIn w6 w2.heap.size w3.heap.size a3 c3 (x0 :: x1 :: (N ++ T))) := HW4'.out.below hb6 (by omega)
  have HW6 : Hid (WordIn w6 w4.heap.size w5.heap.size a5 c5 (x0 :: x1 :: N)) := hw6
  clear hb6 hw6 HB5 HW5 HW4'
  go_wp2_with fail
  refine (toWord_n T _ _ _ _ hlt (by omega) (HT.out.below HB6.out (Nat.le_refl _)) HCT.out).mono ?_
  rintro e w7 ⟨a7, c7, rfl, hb7, hw7⟩
  have HB7 : Hid (Below w.heap.size w w7) := HB6.out.trans (hb7.mono (by omega))
  have HW4x : Hid (WordIn w7 w2.heap.size w3.heap.size a3 c3 (x0 :: x1 :: (N ++ T))) := HW4''.out.below hb7 (by omega)
  have HW6' : Hid (RdAt w7 a5 (x0 :: x1 :: N)) := (HW6.out.below hb7 (by omega)).rd
  have HW7 : Hid (RdAt w7 a7 T) := hw7.rd
  have hs7 : w6.heap.size ≤ w7.heap.size := hb7.size
  clear hb7 hw7 HB6 HW6 HW4''
  go_wp2_with fail
  refine (join_n (x0 :: x1 :: N) T _ _ _ _ (n + nt - 1) _ _ _ (by simp; omega) hlt (by omega) (by omega) (by omega) HW6'.out HW7.out).mono ?_
  rintro e w8 ⟨a8, c8, rfl, hb8, hw8⟩
  have HB8 : Hid (Below w.heap.size w w8) := HB7.out.trans (hb8.mono (by omega))
  have HR3 : Hid (RdAt w8 a3 (x0 :: x1 :: (N ++ T))) := (HW4x.out.below hb8 (by omega)).rd
  have HR8 : Hid (RdAt w8 a8 (x0 :: x1 :: (N ++ T))) := hw8.rd
  have hs8 : w7.heap.size ≤ w8.heap.size := hb8.size
  clear hb8 hw8 HB7 HW6' HW7 HW4x
  have hbq : (((n + nt - 1 : Nat) : Int) == (n : Int) + (nt : Int) - 1) = true := by rw [beq_iff_eq]; omega
  go_wp2_with fail
  refine (same_n (x0 :: x1 :: (N ++ T)) _ _ _ _ _ _ _ (by simp; omega) (by simp; omega) (by omega) HR3.out HR8.out).mono ?_
  rintro e w9 ⟨rfl, hb9⟩
  have HB9 : Hid (Below w.heap.size w w9) := HB8.out.trans (hb9.mono (by omega))
  clear hb9
  go_wp2
  go_ret
  exact ⟨rfl, HB9.out⟩

set_option maxHeartbeats 400000 in
theorem walk {W : World} (a : Option Addr) (n cap : Nat) (L : List Lt) (hl : L.length = n) (hr : RdAt W a L) (hc : a = none → cap = 0) (hlc : n ≤ cap) (hm : cap ≤ maxLen)
    (a1 : Option Addr) (n1 cap1 : Nat) (L1 : List Lt) (hl1 : L1.length = n1) (hr1 : RdAt W a1 L1) (hc1 : a1 = none → cap1 = 0) (hlc1 : n1 ≤ cap1) (hm1 : cap1 ≤ maxLen) :
    Calls Try.prog 6 #[.slice a n cap, .slice a1 n1 cap1] W fun e w' => e = .returned (.bool true) ∧ Below W.heap.size W w' := by
  unfold maxLen at hm hm1
  by_cases h1 : n + n1 ≤ 1048576
  · have HBY : Hid (Calls Try.prog 15 #[.slice a n cap, .slice a1 n1 cap1] W fun e w' => e = .returned (.bool true) ∧ W = w') := bytes15_yes a a1 n cap n1 cap1 W h1
    by_cases h2 : 32768 < n
    · clear hr hc hl hr1 hc1 hl1
      go_enter Try.func6, Try.ntmps6
      go_wp2_with (go_at_call 15; refine HBY.out.mono ?_; rintro e w' ⟨rfl, rfl⟩)
      go_ret
      exact ⟨rfl, Below.refl _ _⟩
    by_cases h3 : 32768 < n1
    · clear hr hc hl hr1 hc1 hl1
      go_enter Try.func6, Try.ntmps6
      go_wp2_with (go_at_call 15; refine HBY.out.mono ?_; rintro e w' ⟨rfl, rfl⟩)
      go_ret
      exact ⟨rfl, Below.refl _ _⟩
    by_cases h4 : n < 3
    · clear hr hc hl hr1 hc1 hl1
      go_enter Try.func6, Try.ntmps6
      go_wp2_with (go_at_call 15; refine HBY.out.mono ?_; rintro e w' ⟨rfl, rfl⟩)
      go_ret
      exact ⟨rfl, Below.refl _ _⟩
    rcases L with _ | ⟨x0, _ | ⟨x1, _ | ⟨x2, N⟩⟩⟩
    · simp at hl; omega
    · simp at hl; omega
    · simp at hl; omega
    exact main a a1 n cap n1 cap1 x0 x1 x2 N L1 W (by simpa using hl) hl1 (by omega) (by omega) hr hr1 hc hc1
  · have HBY : Hid (Calls Try.prog 15 #[.slice a n cap, .slice a1 n1 cap1] W fun e w' => e = .returned (.bool false) ∧ W = w') := bytes15_no a a1 n cap n1 cap1 W (by omega) (by omega) (by omega)
    clear hr hc hl hr1 hc1 hl1
    go_enter Try.func6, Try.ntmps6
    go_wp2_with (go_at_call 15; refine HBY.out.mono ?_; rintro e w' ⟨rfl, rfl⟩)
    go_ret
    exact ⟨rfl, Below.refl _ _⟩

theorem own : ownKnob Try.prog.godebug = none := by kernel_rfl
theorem laidOut : laidOutB Try.prog = true := by kernel_rfl

/-! ### THE ROW's STEP -/
set_option maxRecDepth 100000 in
theorem lifted (os : Os) (started : os.Started) (H : Type) (enc : TypeId × Value → H) :
    ReturnsInHanded {} Try.checked os 6 .any (Rows.fnDropThirdLeavesAnyTailSpec.pre6 enc Try.prog Try.f6 Rows.fnDropThirdLeavesAnyTailRow.domain false) (Rows.fnDropThirdLeavesAnyTailSpec.post enc Try.prog Try.f6 false true false false) := by
  refine returnsInHanded_of_change (C := Try.checked) own started (by kernel_rfl) Try.func6
    (ChangeSpec.witness6 (enc := enc) (C := Try.checked) false ⟨#[], #[.slice none 0 0, .slice none 0 0], []⟩ 8 (by kernel_rfl) (by kernel_rfl) (by kernel_rfl) (by kernel_rfl)) ?_
  intro W base args ds gs before hval0 hW hcnd _
  have hval : ∀ (j : Nat) t v, Try.f6.params[j]? = some t → args[j]? = some v → Value.okWide Try.prog W .any base t v := hval0
  have hW' := hW
  obtain ⟨p, q, hA0, hV, rfl, hfz, hnd⟩ := hW
  have hA : DataW.TrodAll enc Try.prog W 0 (fun _ => true) true Try.f6.params.toList args.toList ds p := hA0
  rw [Try.params6] at hA hval
  obtain ⟨v0, vs0, d0, ds0, p0, q0, hargs, rfl, rfl, h0, r0⟩ := trodAll_cons hA
  obtain ⟨v1, vs1, d1, ds1, p1, q1, rfl, rfl, rfl, h1, r1⟩ := trodAll_cons r0
  obtain ⟨rfl, rfl, rfl⟩ := trodAll_nil r1
  obtain rfl : args = #[v0, v1] := by cases args; simp_all
  obtain ⟨rfl, rfl⟩ := trodVars_none hV
  obtain ⟨a0, len0, cap0, rfl⟩ := okWide_slice Try.underlying22 (hval 0 22 v0 rfl rfl)
  have k0 := h0
  have lt0 : ∀ x ∈ p0, x.block < W.heap.size := by obtain ⟨m, hm⟩ := k0; exact DataW.trod_lt m _ _ _ hm
  obtain ⟨L0, hl0, hr0, hc0, hlc0, hm0⟩ := open_letters h0
  obtain ⟨a1, len1, cap1, rfl⟩ := okWide_slice Try.underlying22 (hval 1 22 v1 rfl rfl)
  have k1 := h1
  have lt1 : ∀ x ∈ p1, x.block < W.heap.size := by obtain ⟨m, hm⟩ := k1; exact DataW.trod_lt m _ _ _ hm
  obtain ⟨L1, hl1, hr1, hc1, hlc1, hm1⟩ := open_letters h1
  clear hA0 hval0
  refine (walk a0 len0 cap0 L0 hl0 hr0 hc0 hlc0 hm0 a1 len1 cap1 L1 hl1 hr1 hc1 hlc1 hm1).mono fun e W' ⟨he, bel⟩ => ?_
  subst he
  exact ⟨_, rfl, _, _, _, [], _, [], hW', trodAll_mk1 (shut_bool Try.underlying4 _), (trodAll_cons_mk (Below.trod laidOut (by kernel_rfl) (of_decide_eq_true (by kernel_rfl)) k0 bel lt0) (trodAll_cons_mk (Below.trod laidOut (by kernel_rfl) (of_decide_eq_true (by kernel_rfl)) k1 bel lt1) trodAll_mk0)), rfl, bel.frame _, fun h => by cases h⟩

theorem over : Rows.fnDropThirdLeavesAnyTailRow.holds Try.pinned (OpenSpec.ofChange Rows.fnDropThirdLeavesAnyTailSpec) :=
  OpenClaim.holds_of_wide 6 Try.f6 rfl rfl rfl rfl rfl rfl rfl ⟨rfl, rfl, rfl, rfl, rfl⟩ rfl rfl rfl rfl rfl (by kernel_rfl) Try.func6 (by kernel_rfl)
    (of_decide_eq_true (by kernel_rfl)) (by unfold Func.isWrapper; first | (rw [if_pos (by decide +kernel)]; kernel_rfl) | (rw [if_neg (by decide +kernel)]; exact ⟨rfl, rfl⟩))
    (fun os started H enc _ => lifted os started H enc)

/-- THE STATEMENT -/
theorem proved : Rows.FnDropThirdLeavesAnyTailSaid :=
  over
end Go.Proofs.Qxb6615174a.fnDropThirdLeavesAnyTail
