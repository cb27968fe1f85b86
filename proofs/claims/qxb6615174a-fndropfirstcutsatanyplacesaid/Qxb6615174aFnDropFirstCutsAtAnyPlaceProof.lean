/-
  THE PROOF OF 'Rows.FnDropFirstCutsAtAnyPlaceSaid'.
-/
import Derived.Test.Qxb6615174aCalls
import Derived.Test.Qxb6615174aOpen
namespace Go.Proofs.Qxb6615174a.fnDropFirstCutsAtAnyPlace
open Go.ChangeShapes Go.WideShapes Go.ChangeAt Go.RowKit

set_option maxHeartbeats 1000000 in
theorem main (b off n cap k : Nat) (x : Lt) (L : List Lt) (w : World) (hl : L.length + 1 = n) (hn : n ≤ 65536) (hcap : n ≤ cap) (_hmax : cap ≤ 9223372036854775807) (hk1 : 1 ≤ k) (hk2 : k ≤ n) (hL : Wd w b off (x :: L)) :
    Calls Try.prog 3 #[.slice (some ⟨b, off, none⟩) n cap, .int .i64 k] w fun e w' => e = .returned (.bool true) ∧ Below w.heap.size w w' := by
  have HL : Hid (Wd w b off (x :: L)) := hL
  obtain ⟨A3, hA3, hR3⟩ : ∃ A3 : Option Addr, (if cap = k then some (⟨b, off, none⟩ : Addr) else some ⟨b, off + k * 4, none⟩) = A3 ∧ RdAt w A3 ((x :: L).drop k) := ⟨_, rfl, rd_rest hL k cap (by simp; omega)⟩
  have HA3 : Hid (A3 = none → cap - k = 0) := fun h => by rw [← hA3] at h; split at h <;> cases h
  have HR3 : Hid (RdAt w A3 ((x :: L).drop k)) := hR3
  clear hL hR3
  go_enter Try.func3, Try.ntmps3
  go_wp2_with (go_at_call 7; refine (bytes7_yes _ _ _ _ _ (by omega)).mono ?_; rintro e w' ⟨rfl, rfl⟩)
  refine (toWord_n (x :: L) _ _ _ _ (by simp; omega) (by omega) (Or.inr ⟨b, off, rfl, HL.out⟩) (fun h => by cases h)).mono ?_
  rintro e w1 ⟨a1, c1, rfl, hb1, hw1⟩
  have HB1 : Hid (Below w.heap.size w w1) := hb1
  have HW1 : Hid (WordIn w1 w.heap.size w1.heap.size a1 c1 (x :: L)) := hw1
  clear hb1 hw1
  go_wp2_with fail
  refine (dropFirst_n _ _ x L _ _ (n - 1) _ _ hl (by omega) HW1.out).mono ?_
  rintro e w' ⟨a2, c2, rfl, rfl, hw2⟩
  have HW2 : Hid (WordIn w1 w.heap.size w1.heap.size a2 c2 L) := hw2
  clear hw2 HW1
  go_wp2_with fail
  refine (toWord_n ((x :: L).take k) _ _ _ _ (by simp; omega) (by omega) ((rd_cut HL.out k).below HB1.out (Nat.le_refl _)) (fun h => by cases h)).mono ?_
  rintro e w2 ⟨a3, c3, rfl, hb2, hw3⟩
  have HW2' : Hid (WordIn w2 w.heap.size w1.heap.size a2 c2 L) := HW2.out.below hb2 (Nat.le_refl _)
  have hs1 : w.heap.size ≤ w1.heap.size := HB1.out.size
  have HB2 : Hid (Below w.heap.size w w2) := HB1.out.trans (hb2.mono hs1)
  have e3 : (x :: L).take k = x :: L.take (k - 1) := by
    obtain ⟨k', rfl⟩ : ∃ k', k = k' + 1 := ⟨k - 1, by omega⟩
    rfl
  rw [e3] at hw3
  have HW3 : Hid (WordIn w2 w1.heap.size w2.heap.size a3 c3 (x :: L.take (k - 1))) := hw3
  have hs2 : w1.heap.size ≤ w2.heap.size := hb2.size
  clear hb2 hw3 HB1 HW2 e3
  go_wp2_with fail
  refine (dropFirst_n _ _ x (L.take (k - 1)) _ _ (k - 1) _ _ (by simp; omega) (by simp; omega) HW3.out).mono ?_
  rintro e w' ⟨a4, c4, rfl, rfl, hw4⟩
  have HW4 : Hid (WordIn w2 w1.heap.size w2.heap.size a4 c4 (L.take (k - 1))) := hw4
  clear hw4 HW3
  go_wp2_with fail
  refine (toWord_n ((x :: L).drop k) _ _ _ _ (by simp; omega) (by omega) (HR3.out.below HB2.out (Nat.le_refl _)) HA3.out).mono ?_
  rintro e w3 ⟨a5, c5, rfl, hb3, hw5⟩
  have HW2'' : Hid (WordIn w3 w.heap.size w1.heap.size a2 c2 L) := HW2'.out.below hb3 hs2
  have HW4' : Hid (WordIn w3 w1.heap.size w2.heap.size a4 c4 (L.take (k - 1))) := HW4.out.below hb3 (Nat.le_refl _)
  have HB3 : Hid (Below w.heap.size w w3) := HB2.out.trans (hb3.mono (by omega))
  have hs3 : w2.heap.size ≤ w3.heap.size := hb3.size
  have e5 : (x :: L).drop k = L.drop (k - 1) := by
    obtain ⟨k', rfl⟩ : ∃ k', k = k' + 1 := ⟨k - 1, by omega⟩
    rfl
  rw [e5] at hw5
  have HW5 : Hid (WordIn w3 w2.heap.size w3.heap.size a5 c5 (L.drop (k - 1))) := hw5
  clear hb3 hw5 e5 HB2 HW2' HW4
  go_wp2_with fail
  refine (join_n (L.take (k - 1)) (L.drop (k - 1)) _ _ _ _ (n - 1) _ _ _ (by simp; omega) (by simp; omega) (by omega) (by omega) (by omega) HW4'.out.rd HW5.out.rd).mono ?_
  rintro e w4 ⟨a6, c6, rfl, hb4, hw6⟩
  rw [List.take_append_drop] at hw6
  have HR6 : Hid (RdAt w4 a6 L) := hw6.rd
  have HR2 : Hid (RdAt w4 a2 L) := (HW2''.out.below hb4 (by omega)).rd
  have HB4 : Hid (Below w.heap.size w w4) := HB3.out.trans (hb4.mono (by omega))
  have hs4 : w3.heap.size ≤ w4.heap.size := hb4.size
  clear hb4 hw6 HW2'' HW4' HW5 HB3
  go_wp2_with fail
  refine (same_n L _ _ _ _ _ _ _ (by omega) (by omega) (by omega) HR2.out HR6.out).mono ?_
  rintro e w5 ⟨rfl, hb5⟩
  have HB5 : Hid (Below w.heap.size w w5) := HB4.out.trans (hb5.mono (by omega))
  clear hb5
  go_wp2
  go_ret
  exact ⟨rfl, HB5.out⟩

set_option maxHeartbeats 400000 in
theorem walk {W : World} (a : Option Addr) (n cap : Nat) (L : List Lt) (hl : L.length = n) (hr : RdAt W a L) (hc : a = none → cap = 0) (hlc : n ≤ cap) (hm : cap ≤ maxLen) (k : Int) (_ : (Lit.int .i64 k).wf = true) :
    Calls Try.prog 3 #[.slice a n cap, .int .i64 k] W fun e w' => e = .returned (.bool true) ∧ Below W.heap.size W w' := by
  unfold maxLen at hm
  by_cases h1 : 1048576 < n
  · clear hr hc hl
    go_enter Try.func3, Try.ntmps3
    go_wp2_with (go_at_call 7; refine (bytes7_no _ _ _ _ _ (by omega) (by omega)).mono ?_; rintro e w' ⟨rfl, rfl⟩)
    go_ret
    exact ⟨rfl, Below.refl _ _⟩
  by_cases h2 : 65536 < n
  · clear hr hc hl
    go_enter Try.func3, Try.ntmps3
    go_wp2_with (go_at_call 7; refine (bytes7_yes _ _ _ _ _ (by omega)).mono ?_; rintro e w' ⟨rfl, rfl⟩)
    go_ret
    exact ⟨rfl, Below.refl _ _⟩
  by_cases h3 : k < 1
  · clear hr hc hl
    go_enter Try.func3, Try.ntmps3
    go_wp2_with (go_at_call 7; refine (bytes7_yes _ _ _ _ _ (by omega)).mono ?_; rintro e w' ⟨rfl, rfl⟩)
    go_ret
    exact ⟨rfl, Below.refl _ _⟩
  by_cases h4 : (n : Int) < k
  · clear hr hc hl
    go_enter Try.func3, Try.ntmps3
    go_wp2_with (go_at_call 7; refine (bytes7_yes _ _ _ _ _ (by omega)).mono ?_; rintro e w' ⟨rfl, rfl⟩)
    go_ret
    exact ⟨rfl, Below.refl _ _⟩
  obtain ⟨k', rfl⟩ := Int.eq_ofNat_of_zero_le (show 0 ≤ k by omega)
  rcases L with _ | ⟨x, L⟩
  · simp at hl; omega
  rcases hr with hr | ⟨b, off, rfl, hr⟩
  · cases hr
  exact main b off n cap k' x L W (by simpa using hl) (by omega) hlc hm (by omega) (by omega) hr

theorem own : ownKnob Try.prog.godebug = none := by kernel_rfl
theorem laidOut : laidOutB Try.prog = true := by kernel_rfl

/-! ### THE ROW's STEP -/
set_option maxRecDepth 100000 in
theorem lifted (os : Os) (started : os.Started) (H : Type) (enc : TypeId × Value → H) :
    ReturnsInHanded {} Try.checked os 3 .any (Rows.fnDropFirstCutsAtAnyPlaceSpec.pre6 enc Try.prog Try.f3 Rows.fnDropFirstCutsAtAnyPlaceRow.domain false) (Rows.fnDropFirstCutsAtAnyPlaceSpec.post enc Try.prog Try.f3 false true false false) := by
  refine returnsInHanded_of_change (C := Try.checked) own started (by kernel_rfl) Try.func3
    (ChangeSpec.witness6 (enc := enc) (C := Try.checked) false ⟨#[], #[.slice none 0 0, .int .i64 0], []⟩ 8 (by kernel_rfl) (by kernel_rfl) (by kernel_rfl) (by kernel_rfl)) ?_
  intro W base args ds gs before hval0 hW hcnd _
  have hval : ∀ (j : Nat) t v, Try.f3.params[j]? = some t → args[j]? = some v → Value.okWide Try.prog W .any base t v := hval0
  have hW' := hW
  obtain ⟨p, q, hA0, hV, rfl, hfz, hnd⟩ := hW
  have hA : DataW.TrodAll enc Try.prog W 0 (fun _ => true) true Try.f3.params.toList args.toList ds p := hA0
  rw [Try.params3] at hA hval
  obtain ⟨v0, vs0, d0, ds0, p0, q0, hargs, rfl, rfl, h0, r0⟩ := trodAll_cons hA
  obtain ⟨v1, vs1, d1, ds1, p1, q1, rfl, rfl, rfl, h1, r1⟩ := trodAll_cons r0
  obtain ⟨rfl, rfl, rfl⟩ := trodAll_nil r1
  obtain rfl : args = #[v0, v1] := by cases args; simp_all
  obtain ⟨rfl, rfl⟩ := trodVars_none hV
  obtain ⟨a0, len0, cap0, rfl⟩ := okWide_slice Try.underlying22 (hval 0 22 v0 rfl rfl)
  have k0 := h0
  have lt0 : ∀ x ∈ p0, x.block < W.heap.size := by obtain ⟨m, hm⟩ := k0; exact DataW.trod_lt m _ _ _ hm
  obtain ⟨L0, hl0, hr0, hc0, hlc0, hm0⟩ := open_letters h0
  obtain ⟨a1, rfl, rfl, rfl, w1⟩ := open_int Try.underlying3 (hval 1 3 v1 rfl rfl) h1
  clear hA0 hval0
  refine (walk a0 len0 cap0 L0 hl0 hr0 hc0 hlc0 hm0 a1 w1).mono fun e W' ⟨he, bel⟩ => ?_
  subst he
  exact ⟨_, rfl, _, _, _, [], _, [], hW', trodAll_mk1 (shut_bool Try.underlying4 _), (trodAll_cons_mk (Below.trod laidOut (by kernel_rfl) (of_decide_eq_true (by kernel_rfl)) k0 bel lt0) (trodAll_cons_mk (shut_int Try.underlying3 w1) trodAll_mk0)), rfl, bel.frame _, fun h => by cases h⟩

theorem over : Rows.fnDropFirstCutsAtAnyPlaceRow.holds Try.pinned (OpenSpec.ofChange Rows.fnDropFirstCutsAtAnyPlaceSpec) :=
  OpenClaim.holds_of_wide 3 Try.f3 rfl rfl rfl rfl rfl rfl rfl ⟨rfl, rfl, rfl, rfl, rfl⟩ rfl rfl rfl rfl rfl (by kernel_rfl) Try.func3 (by kernel_rfl)
    (of_decide_eq_true (by kernel_rfl)) (by unfold Func.isWrapper; first | (rw [if_pos (by decide +kernel)]; kernel_rfl) | (rw [if_neg (by decide +kernel)]; exact ⟨rfl, rfl⟩))
    (fun os started H enc _ => lifted os started H enc)

/-- THE STATEMENT -/
theorem proved : Rows.FnDropFirstCutsAtAnyPlaceSaid :=
  over
end Go.Proofs.Qxb6615174a.fnDropFirstCutsAtAnyPlace
