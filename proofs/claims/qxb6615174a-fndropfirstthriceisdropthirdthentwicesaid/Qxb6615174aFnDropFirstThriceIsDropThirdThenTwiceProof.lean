/-
  THE PROOF OF 'Rows.FnDropFirstThriceIsDropThirdThenTwiceSaid'.
-/
import Derived.Test.Qxb6615174aCalls
import Derived.Test.Qxb6615174aOpen
namespace Go.Proofs.Qxb6615174a.fnDropFirstThriceIsDropThirdThenTwice
open Go.ChangeShapes Go.WideShapes Go.ChangeAt Go.RowKit

set_option maxHeartbeats 1000000 in
theorem main (b off n cap : Nat) (x0 x1 x2 : Lt) (N : List Lt) (w : World) (hl : N.length + 3 = n) (hn : n ≤ 65536) (_hcap : n ≤ cap) (hL : Wd w b off (x0 :: x1 :: x2 :: N)) :
    Calls Try.prog 4 #[.slice (some ⟨b, off, none⟩) n cap] w fun e w' => e = .returned (.bool true) ∧ Below w.heap.size w w' := by
  have HL : Hid (RdAt w (some ⟨b, off, none⟩) (x0 :: x1 :: x2 :: N)) := Or.inr ⟨b, off, rfl, hL⟩
  clear hL
  go_enter Try.func4, Try.ntmps4
  go_wp2_with (go_at_call 12; refine (bytes12_yes _ _ _ _ (by omega)).mono ?_; rintro e w' ⟨rfl, rfl⟩)
  refine (toWord_n (x0 :: x1 :: x2 :: N) _ _ _ _ (by simp; omega) (by omega) HL.out (fun h => by cases h)).mono ?_
  rintro e w1 ⟨a1, c1, rfl, hb1, hw1⟩
  have HB1 : Hid (Below w.heap.size w w1) := hb1
  have HW1 : Hid (WordIn w1 w.heap.size w1.heap.size a1 c1 (x0 :: x1 :: x2 :: N)) := hw1
  have hs1 : w.heap.size ≤ w1.heap.size := hb1.size
  clear hb1 hw1
  go_wp2_with fail
  refine (dropFirst_n _ _ x0 (x1 :: x2 :: N) _ _ (n - 1) _ _ (by simp; omega) (by simp; omega) HW1.out).mono ?_
  rintro e w' ⟨a2, c2, rfl, rfl, hw2⟩
  have HW2 : Hid (WordIn w1 w.heap.size w1.heap.size a2 c2 (x1 :: x2 :: N)) := hw2
  clear hw2 HW1
  go_wp2_with fail
  refine (dropFirst_n _ _ x1 (x2 :: N) _ _ (n - 2) _ _ (by simp; omega) (by simp; omega) HW2.out).mono ?_
  rintro e w' ⟨a3, c3, rfl, rfl, hw3⟩
  have HW3 : Hid (WordIn w1 w.heap.size w1.heap.size a3 c3 (x2 :: N)) := hw3
  clear hw3 HW2
  go_wp2_with fail
  refine (dropFirst_n _ _ x2 N _ _ (n - 3) _ _ (by omega) (by omega) HW3.out).mono ?_
  rintro e w' ⟨a4, c4, rfl, rfl, hw4⟩
  have HW4 : Hid (WordIn w1 w.heap.size w1.heap.size a4 c4 N) := hw4
  clear hw4 HW3
  go_wp2_with fail
  refine (toWord_n (x0 :: x1 :: x2 :: N) _ _ _ _ (by simp; omega) (by omega) (HL.out.below HB1.out (Nat.le_refl _)) (fun h => by cases h)).mono ?_
  rintro e w2 ⟨a5, c5, rfl, hb2, hw5⟩
  have HB2 : Hid (Below w.heap.size w w2) := HB1.out.trans (hb2.mono hs1)
  have HW4' : Hid (WordIn w2 w.heap.size w1.heap.size a4 c4 N) := HW4.out.below hb2 (Nat.le_refl _)
  have HW5 : Hid (WordIn w2 w1.heap.size w2.heap.size a5 c5 (x0 :: x1 :: x2 :: N)) := hw5
  have hs2 : w1.heap.size ≤ w2.heap.size := hb2.size
  clear hb2 hw5 HB1 HW4
  go_wp2_with fail
  refine (dropThird_n _ _ x0 x1 x2 N _ _ (n - 1) _ _ (by omega) (by omega) HW5.out).mono ?_
  rintro e w3 ⟨rfl, hb3, hz3, hw6⟩
  have HB3 : Hid (Below w.heap.size w w3) := HB2.out.trans (hb3.mono hs1)
  have HW4'' : Hid (RdAt w3 a4 N) := (HW4'.out.below hb3 (Nat.le_refl _)).rd
  have HW6 : Hid (WordIn w3 w1.heap.size w2.heap.size a5 c5 (x0 :: x1 :: N)) := hw6
  have hs3 : w2.heap.size ≤ w3.heap.size := by omega
  clear hb3 hw6 HB2 HW4' HW5 hz3
  go_wp2_with fail
  refine (dropFirst_n _ _ x0 (x1 :: N) _ _ (n - 2) _ _ (by simp; omega) (by simp; omega) HW6.out).mono ?_
  rintro e w' ⟨a7, c7, rfl, rfl, hw7⟩
  have HW7 : Hid (WordIn w3 w1.heap.size w2.heap.size a7 c7 (x1 :: N)) := hw7
  clear hw7 HW6
  go_wp2_with fail
  refine (dropFirst_n _ _ x1 N _ _ (n - 3) _ _ (by omega) (by omega) HW7.out).mono ?_
  rintro e w' ⟨a8, c8, rfl, rfl, hw8⟩
  have HW8 : Hid (RdAt w3 a8 N) := hw8.rd
  clear hw8 HW7
  go_wp2_with fail
  refine (same_n N _ _ _ _ _ _ _ (by omega) (by omega) (by omega) HW4''.out HW8.out).mono ?_
  rintro e w5 ⟨rfl, hb5⟩
  have HB5 : Hid (Below w.heap.size w w5) := HB3.out.trans (hb5.mono (by omega))
  clear hb5
  go_wp2
  go_ret
  exact ⟨rfl, HB5.out⟩

set_option maxHeartbeats 400000 in
theorem walk {W : World} (a : Option Addr) (n cap : Nat) (L : List Lt) (hl : L.length = n) (hr : RdAt W a L) (hc : a = none → cap = 0) (hlc : n ≤ cap) (hm : cap ≤ maxLen) :
    Calls Try.prog 4 #[.slice a n cap] W fun e w' => e = .returned (.bool true) ∧ Below W.heap.size W w' := by
  unfold maxLen at hm
  by_cases h1 : 1048576 < n
  · clear hr hc hl
    go_enter Try.func4, Try.ntmps4
    go_wp2_with (go_at_call 12; refine (bytes12_no _ _ _ _ (by omega) (by omega)).mono ?_; rintro e w' ⟨rfl, rfl⟩)
    go_ret
    exact ⟨rfl, Below.refl _ _⟩
  by_cases h2 : 65536 < n
  · clear hr hc hl
    go_enter Try.func4, Try.ntmps4
    go_wp2_with (go_at_call 12; refine (bytes12_yes _ _ _ _ (by omega)).mono ?_; rintro e w' ⟨rfl, rfl⟩)
    go_ret
    exact ⟨rfl, Below.refl _ _⟩
  by_cases h3 : n < 3
  · clear hr hc hl
    go_enter Try.func4, Try.ntmps4
    go_wp2_with (go_at_call 12; refine (bytes12_yes _ _ _ _ (by omega)).mono ?_; rintro e w' ⟨rfl, rfl⟩)
    go_ret
    exact ⟨rfl, Below.refl _ _⟩
  rcases L with _ | ⟨x0, _ | ⟨x1, _ | ⟨x2, N⟩⟩⟩
  · simp at hl; omega
  · simp at hl; omega
  · simp at hl; omega
  rcases hr with hr | ⟨b, off, rfl, hr⟩
  · cases hr
  exact main b off n cap x0 x1 x2 N W (by simpa using hl) (by omega) hlc hr

theorem own : ownKnob Try.prog.godebug = none := by kernel_rfl
theorem laidOut : laidOutB Try.prog = true := by kernel_rfl

/-! ### THE ROW's STEP -/
set_option maxRecDepth 100000 in
theorem lifted (os : Os) (started : os.Started) (H : Type) (enc : TypeId × Value → H) :
    ReturnsInHanded {} Try.checked os 4 .any (Rows.fnDropFirstThriceIsDropThirdThenTwiceSpec.pre6 enc Try.prog Try.f4 Rows.fnDropFirstThriceIsDropThirdThenTwiceRow.domain false) (Rows.fnDropFirstThriceIsDropThirdThenTwiceSpec.post enc Try.prog Try.f4 false true false false) := by
  refine returnsInHanded_of_change (C := Try.checked) own started (by kernel_rfl) Try.func4
    (ChangeSpec.witness6 (enc := enc) (C := Try.checked) false ⟨#[], #[.slice none 0 0], []⟩ 8 (by kernel_rfl) (by kernel_rfl) (by kernel_rfl) (by kernel_rfl)) ?_
  intro W base args ds gs before hval0 hW hcnd _
  have hval : ∀ (j : Nat) t v, Try.f4.params[j]? = some t → args[j]? = some v → Value.okWide Try.prog W .any base t v := hval0
  have hW' := hW
  obtain ⟨p, q, hA0, hV, rfl, hfz, hnd⟩ := hW
  have hA : DataW.TrodAll enc Try.prog W 0 (fun _ => true) true Try.f4.params.toList args.toList ds p := hA0
  rw [Try.params4] at hA hval
  obtain ⟨v0, vs0, d0, ds0, p0, q0, hargs, rfl, rfl, h0, r0⟩ := trodAll_cons hA
  obtain ⟨rfl, rfl, rfl⟩ := trodAll_nil r0
  obtain rfl : args = #[v0] := by cases args; simp_all
  obtain ⟨rfl, rfl⟩ := trodVars_none hV
  obtain ⟨a0, len0, cap0, rfl⟩ := okWide_slice Try.underlying22 (hval 0 22 v0 rfl rfl)
  have k0 := h0
  have lt0 : ∀ x ∈ p0, x.block < W.heap.size := by obtain ⟨m, hm⟩ := k0; exact DataW.trod_lt m _ _ _ hm
  obtain ⟨L0, hl0, hr0, hc0, hlc0, hm0⟩ := open_letters h0
  clear hA0 hval0
  refine (walk a0 len0 cap0 L0 hl0 hr0 hc0 hlc0 hm0).mono fun e W' ⟨he, bel⟩ => ?_
  subst he
  exact ⟨_, rfl, _, _, _, [], _, [], hW', trodAll_mk1 (shut_bool Try.underlying4 _), (trodAll_cons_mk (Below.trod laidOut (by kernel_rfl) (of_decide_eq_true (by kernel_rfl)) k0 bel lt0) trodAll_mk0), rfl, bel.frame _, fun h => by cases h⟩

theorem over : Rows.fnDropFirstThriceIsDropThirdThenTwiceRow.holds Try.pinned (OpenSpec.ofChange Rows.fnDropFirstThriceIsDropThirdThenTwiceSpec) :=
  OpenClaim.holds_of_wide 4 Try.f4 rfl rfl rfl rfl rfl rfl rfl ⟨rfl, rfl, rfl, rfl, rfl⟩ rfl rfl rfl rfl rfl (by kernel_rfl) Try.func4 (by kernel_rfl)
    (of_decide_eq_true (by kernel_rfl)) (by unfold Func.isWrapper; first | (rw [if_pos (by decide +kernel)]; kernel_rfl) | (rw [if_neg (by decide +kernel)]; exact ⟨rfl, rfl⟩))
    (fun os started H enc _ => lifted os started H enc)

/-- THE STATEMENT -/
theorem proved : Rows.FnDropFirstThriceIsDropThirdThenTwiceSaid :=
  over
end Go.Proofs.Qxb6615174a.fnDropFirstThriceIsDropThirdThenTwice
