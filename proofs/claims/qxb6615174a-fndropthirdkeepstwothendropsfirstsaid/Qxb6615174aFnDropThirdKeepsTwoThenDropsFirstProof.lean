/-
  THE PROOF OF 'Rows.FnDropThirdKeepsTwoThenDropsFirstSaid'.
-/
import Derived.Test.Qxb6615174aCalls
import Derived.Test.Qxb6615174aOpen
import Derived.Deep.RegionWith
namespace Go.Proofs.Qxb6615174a.fnDropThirdKeepsTwoThenDropsFirst
open Go.ChangeShapes Go.WideShapes Go.ChangeAt Go.RowKit

set_option maxHeartbeats 1000000 in
theorem main (b off n cap : Nat) (x0 x1 x2 : Lt) (N : List Lt) (w : World) (hl : N.length + 3 = n) (hn : n ≤ 65536) (hcap : n ≤ cap) (hL : Wd w b off (x0 :: x1 :: x2 :: N)) :
    Calls Try.prog 5 #[.slice (some ⟨b, off, none⟩) n cap] w fun e w' => e = .returned (.bool true) ∧ Below w.heap.size w w' := by
  have HL : Hid (RdAt w (some ⟨b, off, none⟩) (x0 :: x1 :: x2 :: N)) := Or.inr ⟨b, off, rfl, hL⟩
  have HL2 : Hid (RdAt w (some ⟨b, off, none⟩) [x0, x1]) := rd_cut hL 2
  obtain ⟨A3, hA3, hR3⟩ : ∃ A3 : Option Addr, (if cap = 2 then some (⟨b, off, none⟩ : Addr) else some ⟨b, off + 8, none⟩) = A3 ∧ RdAt w A3 (x2 :: N) := ⟨_, rfl, rd_rest hL 2 cap (by simp; omega)⟩
  have HA3 : Hid (A3 = none → cap - 2 = 0) := fun h => by rw [← hA3] at h; split at h <;> cases h
  have HR3 : Hid (RdAt w A3 (x2 :: N)) := hR3
  clear hL hR3
  go_enter Try.func5, Try.ntmps5
  go_wp2_with (go_at_call 14; refine (bytes14_yes _ _ _ _ (by omega)).mono ?_; rintro e w' ⟨rfl, rfl⟩)
  refine (toWord_n (x0 :: x1 :: x2 :: N) _ _ _ _ (by simp; omega) (by omega) HL.out (fun h => by cases h)).mono ?_
  rintro e w1 ⟨a1, c1, rfl, hb1, hw1⟩
  have HB1 : Hid (Below w.heap.size w w1) := hb1
  have HW1 : Hid (WordIn w1 w.heap.size w1.heap.size a1 c1 (x0 :: x1 :: x2 :: N)) := hw1
  have hs1 : w.heap.size ≤ w1.heap.size := hb1.size
  clear hb1 hw1
  go_wp2_with fail
  refine (dropThird_n _ _ x0 x1 x2 N _ _ (n - 1) _ _ (by omega) (by omega) HW1.out).mono ?_
  rintro e w2 ⟨rfl, hb2, hz2, hw2⟩
  have HB2 : Hid (Below w.heap.size w w2) := HB1.out.trans hb2
  have HW2 : Hid (WordIn w2 w.heap.size w1.heap.size a1 c1 (x0 :: x1 :: N)) := hw2
  clear hb2 hw2 HB1 HW1
  go_wp2_with fail
  have h2n : (2 : Int) ≤ (cap : Int) := by omega
  have h2m : (2 : Int) ≤ (n : Int) := by omega
  go_region_with (first
    | (go_at_call_of 9 A3; refine (toWord_n (x2 :: N) _ _ _ _ (by simp; omega) (by omega) (HR3.out.below HB3.out (Nat.le_refl _)) HA3.out).mono ?_; rintro e w4 ⟨a4, c4, rfl, hb4, hw4⟩; have HB4 : Hid (Below w.heap.size w w4) := HB3.out.trans (hb4.mono hs3); have HW2b : Hid (WordIn w4 w.heap.size w1.heap.size a1 c1 (x0 :: x1 :: N)) := HW2a.out.below hb4 hs3'; have HW3a : Hid (RdAt w4 a3 [x0, x1]) := (HW3.out.below hb4 (Nat.le_refl _)).rd; have HW4 : Hid (WordIn w4 w3.heap.size w4.heap.size a4 c4 (x2 :: N)) := hw4; have hs4 : w3.heap.size ≤ w4.heap.size := hb4.size; clear hb4 hw4)
    | (go_at_call 9; go_must (refine (toWord_n [x0, x1] _ 2 _ _ rfl (by omega) (HL2.out.below HB2.out.drew (Nat.le_refl _)) (fun h => by cases h)).mono ?_; rintro e w3 ⟨a3, c3, rfl, hb3, hw3⟩; have HB3 : Hid (Below w.heap.size w w3) := HB2.out.drew.trans (hb3.mono (show w.heap.size ≤ w2.heap.size by omega)); have HW2a : Hid (WordIn w3 w.heap.size w1.heap.size a1 c1 (x0 :: x1 :: N)) := WordIn.below hb3 (w := w2.drew) HW2.out (show w1.heap.size ≤ w2.heap.size by omega); have HW3 : Hid (WordIn w3 w2.heap.size w3.heap.size a3 c3 [x0, x1]) := hw3; have hs3 : w.heap.size ≤ w3.heap.size := HB3.out.size; have hs3' : w1.heap.size ≤ w3.heap.size := Nat.le_trans (show w1.heap.size ≤ w2.heap.size by omega) hb3.size; clear hb3 hw3))
    | (go_at_call 8; refine (dropFirst_n _ _ x2 N _ _ (n - 3) _ _ (by omega) (by omega) HW4.out).mono ?_; rintro e w' ⟨a5, c5, rfl, rfl, hw5⟩; have HW5 : Hid (RdAt w4 a5 N) := hw5.rd; clear hw5)
    | (go_at_call 10; refine (join_n [x0, x1] N _ _ 2 _ (n - 1) _ _ _ rfl (by omega) (by omega) (by omega) (by omega) HW3a.out HW5.out).mono ?_; rintro e w5 ⟨a6, c6, rfl, hb5, hw6⟩; have HB5 : Hid (Below w.heap.size w w5) := HB4.out.trans (hb5.mono (by omega)); have HR1 : Hid (RdAt w5 a1 (x0 :: x1 :: N)) := (HW2b.out.below hb5 (by omega)).rd; have HR6 : Hid (RdAt w5 a6 (x0 :: x1 :: N)) := hw6.rd; have hs5 : w4.heap.size ≤ w5.heap.size := hb5.size; clear hb5 hw6))
  all_goals (go_wp2_with fail)
  all_goals (refine (same_n (x0 :: x1 :: N) _ _ _ _ _ _ _ (by simp; omega) (by simp; omega) (by omega) HR1.out HR6.out).mono ?_; rintro e w9 ⟨rfl, hb9⟩; have HB9 : Hid (Below w.heap.size w w9) := HB5.out.trans (hb9.mono (by omega)); clear hb9)
  all_goals go_wp2
  all_goals (go_ret; exact ⟨rfl, HB9.out⟩)

set_option maxHeartbeats 400000 in
theorem walk {W : World} (a : Option Addr) (n cap : Nat) (L : List Lt) (hl : L.length = n) (hr : RdAt W a L) (hc : a = none → cap = 0) (hlc : n ≤ cap) (hm : cap ≤ maxLen) :
    Calls Try.prog 5 #[.slice a n cap] W fun e w' => e = .returned (.bool true) ∧ Below W.heap.size W w' := by
  unfold maxLen at hm
  by_cases h1 : 1048576 < n
  · clear hr hc hl
    go_enter Try.func5, Try.ntmps5
    go_wp2_with (go_at_call 14; refine (bytes14_no _ _ _ _ (by omega) (by omega)).mono ?_; rintro e w' ⟨rfl, rfl⟩)
    go_ret
    exact ⟨rfl, Below.refl _ _⟩
  by_cases h2 : 65536 < n
  · clear hr hc hl
    go_enter Try.func5, Try.ntmps5
    go_wp2_with (go_at_call 14; refine (bytes14_yes _ _ _ _ (by omega)).mono ?_; rintro e w' ⟨rfl, rfl⟩)
    go_ret
    exact ⟨rfl, Below.refl _ _⟩
  by_cases h3 : n < 3
  · clear hr hc hl
    go_enter Try.func5, Try.ntmps5
    go_wp2_with (go_at_call 14; refine (bytes14_yes _ _ _ _ (by omega)).mono ?_; rintro e w' ⟨rfl, rfl⟩)
    go_ret
    exact ⟨rfl, Below.refl _ _⟩
  rcases L with _ | ⟨x0, _ | ⟨x1, _ | ⟨x2, N⟩⟩⟩
  · simp at hl; omega
  · simp at hl; omega
  · simp at hl; omega
  rcases hr with hr | ⟨b, off, rfl, hr⟩
  · cases hr
  exact main b off n cap x0 x1 x2 N W (by simpa using hl) (by omega) hlc hr

theorem own : ownKnob Try.prog.godebug = none := by kernel_rfl
theorem laidOut : laidOutB Try.prog = true := by kernel_rfl

/-! ### THE ROW's STEP -/
set_option maxRecDepth 100000 in
theorem lifted (os : Os) (started : os.Started) (H : Type) (enc : TypeId × Value → H) :
    ReturnsInHanded {} Try.checked os 5 .any (Rows.fnDropThirdKeepsTwoThenDropsFirstSpec.pre6 enc Try.prog Try.f5 Rows.fnDropThirdKeepsTwoThenDropsFirstRow.domain false) (Rows.fnDropThirdKeepsTwoThenDropsFirstSpec.post enc Try.prog Try.f5 false true false false) := by
  refine returnsInHanded_of_change (C := Try.checked) own started (by kernel_rfl) Try.func5
    (ChangeSpec.witness6 (enc := enc) (C := Try.checked) false ⟨#[], #[.slice none 0 0], []⟩ 8 (by kernel_rfl) (by kernel_rfl) (by kernel_rfl) (by kernel_rfl)) ?_
  intro W base args ds gs before hval0 hW hcnd _
  have hval : ∀ (j : Nat) t v, Try.f5.params[j]? = some t → args[j]? = some v → Value.okWide Try.prog W .any base t v := hval0
  have hW' := hW
  obtain ⟨p, q, hA0, hV, rfl, hfz, hnd⟩ := hW
  have hA : DataW.TrodAll enc Try.prog W 0 (fun _ => true) true Try.f5.params.toList args.toList ds p := hA0
  rw [Try.params5] at hA hval
  obtain ⟨v0, vs0, d0, ds0, p0, q0, hargs, rfl, rfl, h0, r0⟩ := trodAll_cons hA
  obtain ⟨rfl, rfl, rfl⟩ := trodAll_nil r0
  obtain rfl : args = #[v0] := by cases args; simp_all
  obtain ⟨rfl, rfl⟩ := trodVars_none hV
  obtain ⟨a0, len0, cap0, rfl⟩ := okWide_slice Try.underlying22 (hval 0 22 v0 rfl rfl)
  have k0 := h0
  have lt0 : ∀ x ∈ p0, x.block < W.heap.size := by obtain ⟨m, hm⟩ := k0; exact DataW.trod_lt m _ _ _ hm
  obtain ⟨L0, hl0, hr0, hc0, hlc0, hm0⟩ := open_letters h0
  clear hA0 hval0
  refine (walk a0 len0 cap0 L0 hl0 hr0 hc0 hlc0 hm0).mono fun e W' ⟨he, bel⟩ => ?_
  subst he
  exact ⟨_, rfl, _, _, _, [], _, [], hW', trodAll_mk1 (shut_bool Try.underlying4 _), (trodAll_cons_mk (Below.trod laidOut (by kernel_rfl) (of_decide_eq_true (by kernel_rfl)) k0 bel lt0) trodAll_mk0), rfl, bel.frame _, fun h => by cases h⟩

theorem over : Rows.fnDropThirdKeepsTwoThenDropsFirstRow.holds Try.pinned (OpenSpec.ofChange Rows.fnDropThirdKeepsTwoThenDropsFirstSpec) :=
  OpenClaim.holds_of_wide 5 Try.f5 rfl rfl rfl rfl rfl rfl rfl ⟨rfl, rfl, rfl, rfl, rfl⟩ rfl rfl rfl rfl rfl (by kernel_rfl) Try.func5 (by kernel_rfl)
    (of_decide_eq_true (by kernel_rfl)) (by unfold Func.isWrapper; first | (rw [if_pos (by decide +kernel)]; kernel_rfl) | (rw [if_neg (by decide +kernel)]; exact ⟨rfl, rfl⟩))
    (fun os started H enc _ => lifted os started H enc)

/-- THE STATEMENT -/
theorem proved : Rows.FnDropThirdKeepsTwoThenDropsFirstSaid :=
  over
end Go.Proofs.Qxb6615174a.fnDropThirdKeepsTwoThenDropsFirst
