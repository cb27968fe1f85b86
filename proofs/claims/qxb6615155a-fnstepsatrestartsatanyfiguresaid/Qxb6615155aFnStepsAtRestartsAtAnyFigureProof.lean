/-
  THE PROOF OF 'Rows.FnStepsAtRestartsAtAnyFigureSaid' over the frame that proof-skeleton.mjs writes for this function; the walk and the plain law are filled in.
-/
import Derived.Test.Qxb6615155aRows
import Derived.WalkKit
import Derived.ProofKit
import Derived.OpenShut
import Derived.ShutString
namespace Go.Proofs.Qxb6615155a.fnStepsAtRestartsAtAnyFigure
open Go.ChangeShapes Go.WideShapes Go.ChangeAt Go.RowKit
open Go.ChangeMaps (open_string shut_string)
set_option linter.unusedVariables false      -- a walk need not use every 'w<i>' (that an integer argument fits its kind)

theorem own : ownKnob Try.prog.godebug = none := by kernel_rfl

/-! ### THE PLAIN LAW: no Go in sight -/
theorem wrap_off (x : Int) : ∃ q : Int, wrap64 x = x + 18446744073709551616 * q :=
  ⟨-((x + 9223372036854775808) / 18446744073709551616), by unfold wrap64; omega⟩

theorem wrap_congr (x y q : Int) (h : x = y + 18446744073709551616 * q) : wrap64 x = wrap64 y := by
  subst h; unfold wrap64; omega

def figure (f s k : Int) : Int := wrap64 (f + wrap64 (k * s))

theorem restart (f s j k : Int) : figure (figure f s j) s k = figure f s (wrap64 (j + k)) := by
  unfold figure
  obtain ⟨q1, h1⟩ := wrap_off (j * s)
  obtain ⟨q2, h2⟩ := wrap_off (f + wrap64 (j * s))
  obtain ⟨q3, h3⟩ := wrap_off (k * s)
  obtain ⟨q4, h4⟩ := wrap_off (j + k)
  obtain ⟨q5, h5⟩ := wrap_off (wrap64 (j + k) * s)
  refine wrap_congr _ _ (q1 + q2 + q3 - q4 * s - q5) ?_
  rw [h2, h1, h3, h5, h4]
  have e1 : (j + k + 18446744073709551616 * q4) * s = j * s + k * s + 18446744073709551616 * (q4 * s) := by
    rw [Int.add_mul, Int.add_mul, Int.mul_assoc]
  rw [e1]
  omega

theorem neighbour (f s k : Int) (hs : (Lit.int .i64 s).wf = true) : wrap64 (figure f s (wrap64 (k + 1)) - figure f s k) = s := by
  have hb : -9223372036854775808 ≤ s ∧ s ≤ 9223372036854775807 := by
    simp only [Lit.wf, IntKind.min, IntKind.max, IntKind.signed, IntKind.bits, Bool.and_eq_true, decide_eq_true_eq, if_true] at hs
    omega
  have hw : wrap64 s = s := by unfold wrap64; omega
  unfold figure
  obtain ⟨q1, h1⟩ := wrap_off (k + 1)
  obtain ⟨q2, h2⟩ := wrap_off (wrap64 (k + 1) * s)
  obtain ⟨q3, h3⟩ := wrap_off (f + wrap64 (wrap64 (k + 1) * s))
  obtain ⟨q4, h4⟩ := wrap_off (k * s)
  obtain ⟨q5, h5⟩ := wrap_off (f + wrap64 (k * s))
  refine (wrap_congr _ s (q1 * s + q2 + q3 - q4 - q5) ?_).trans hw
  rw [h3, h2, h1, h5, h4]
  have e1 : (k + 1 + 18446744073709551616 * q1) * s = k * s + s + 18446744073709551616 * (q1 * s) := by
    rw [Int.add_mul, Int.add_mul, Int.mul_assoc, Int.one_mul]
  rw [e1]
  omega

/-! ### STEP 1: THE WALK -/
theorem Grown.trans' {a b c : World} (h : Grown a b) (k : Grown b c) : Grown a c :=
  ⟨World.keptBut_trans h.1 k.1, fun x => (k.2.1 x).trans (h.2.1 x), Nat.le_trans h.2.2 k.2.2⟩

theorem at_any (f s c k : Int) (w : World) :
    Calls Try.prog 6 #[.agg #[.int .i64 f, .int .i64 s, .int .i64 c], .int .i64 k] w fun e w' => e = .returned (.int .i64 (figure f s k)) ∧ Grown w w' := by
  go_enter Try.func6, Try.ntmps6
  go_wp2
  go_ret
  exact ⟨rfl, by repeat (first | exact Grown.refl _ | apply Grown.drew | apply Grown.alloc)⟩

theorem stepsAt_any (f s c k : Int) (w : World) :
    Calls Try.prog 5 #[.int .i64 f, .int .i64 s, .int .i64 c, .int .i64 k] w fun e w' => e = .returned (.int .i64 (figure f s k)) ∧ Grown w w' := by
  go_enter Try.func5, Try.ntmps5
  go_wp2_with (go_at_call 6; refine (at_any _ _ _ _ _).mono ?_; rintro e w' ⟨rfl, hg⟩)
  go_ret
  exact ⟨rfl, hg⟩

theorem walk (a0 : Int) (a1 : Int) (a2 : Int) (a3 : Int) (a4 : Int) (w0 : (Lit.int .i64 a0).wf = true) (w1 : (Lit.int .i64 a1).wf = true) (w2 : (Lit.int .i64 a2).wf = true) (w3 : (Lit.int .i64 a3).wf = true) (w4 : (Lit.int .i64 a4).wf = true) (w : World) :
    Calls Try.prog 4 #[.int .i64 a0, .int .i64 a1, .int .i64 a2, .int .i64 a3, .int .i64 a4] w fun e w' => e = .returned (.bool true) ∧ Grown w w' := by
  have e1 : (figure (figure a0 a1 a3) a1 a4 == figure a0 a1 (wrap64 (a3 + a4))) = true := by rw [restart]; simp
  have e2 : (wrap64 (figure a0 a1 (wrap64 (a4 + 1)) - figure a0 a1 a4) == a1) = true := by rw [neighbour _ _ _ w1]; simp
  clear w0 w1 w2 w3 w4
  go_enter Try.func4, Try.ntmps4
  go_wp2_with (go_at_call 5; refine (stepsAt_any _ _ _ _ _).mono ?_; rintro e w' ⟨rfl, hg⟩)
  go_ret
  exact ⟨rfl, by repeat (first | exact Grown.refl _ | assumption | refine Grown.trans' ?_ (by assumption))⟩

/-! ### THE ROW's STEP: WRITTEN OUT: LEAVE IT -/
set_option maxRecDepth 100000 in
theorem lifted (os : Os) (started : os.Started) (H : Type) (enc : TypeId × Value → H) :
    ReturnsInHanded {} Try.checked os 4 .any (Rows.fnStepsAtRestartsAtAnyFigureSpec.pre6 enc Try.prog Try.f4 Rows.fnStepsAtRestartsAtAnyFigureRow.domain false) (Rows.fnStepsAtRestartsAtAnyFigureSpec.post enc Try.prog Try.f4 false true false false) := by
  refine returnsInHanded_of_change (C := Try.checked) own started (by kernel_rfl) Try.func4
    (ChangeSpec.witness6 (enc := enc) (C := Try.checked) false ⟨#[], #[.int .i64 0, .int .i64 0, .int .i64 0, .int .i64 0, .int .i64 0], []⟩ 8 (by kernel_rfl) (by kernel_rfl) (by kernel_rfl) (by kernel_rfl)) ?_
  intro W base args ds gs before hval0 hW hcnd _
  have hval : ∀ (j : Nat) t v, Try.f4.params[j]? = some t → args[j]? = some v → Value.okWide Try.prog W .any base t v := hval0
  have hW' := hW
  obtain ⟨p, q, hA0, hV, rfl, hfz, hnd⟩ := hW
  have hA : DataW.TrodAll enc Try.prog W 0 (fun _ => true) true Try.f4.params.toList args.toList ds p := hA0
  rw [Try.params4] at hA hval
  obtain ⟨v0, vs0, d0, ds0, p0, q0, hargs, rfl, rfl, h0, r0⟩ := trodAll_cons hA
  obtain ⟨v1, vs1, d1, ds1, p1, q1, rfl, rfl, rfl, h1, r1⟩ := trodAll_cons r0
  obtain ⟨v2, vs2, d2, ds2, p2, q2, rfl, rfl, rfl, h2, r2⟩ := trodAll_cons r1
  obtain ⟨v3, vs3, d3, ds3, p3, q3, rfl, rfl, rfl, h3, r3⟩ := trodAll_cons r2
  obtain ⟨v4, vs4, d4, ds4, p4, q4, rfl, rfl, rfl, h4, r4⟩ := trodAll_cons r3
  obtain ⟨rfl, rfl, rfl⟩ := trodAll_nil r4
  obtain rfl : args = #[v0, v1, v2, v3, v4] := by cases args; simp_all
  obtain ⟨rfl, rfl⟩ := trodVars_none hV
  obtain ⟨a0, rfl, rfl, rfl, w0⟩ := open_int Try.underlying2 (hval 0 2 v0 rfl rfl) h0
  obtain ⟨a1, rfl, rfl, rfl, w1⟩ := open_int Try.underlying2 (hval 1 2 v1 rfl rfl) h1
  obtain ⟨a2, rfl, rfl, rfl, w2⟩ := open_int Try.underlying2 (hval 2 2 v2 rfl rfl) h2
  obtain ⟨a3, rfl, rfl, rfl, w3⟩ := open_int Try.underlying2 (hval 3 2 v3 rfl rfl) h3
  obtain ⟨a4, rfl, rfl, rfl, w4⟩ := open_int Try.underlying2 (hval 4 2 v4 rfl rfl) h4
  clear hA0 hval0
  simp only [List.append_nil] at hW'
  refine (walk a0 a1 a2 a3 a4 w0 w1 w2 w3 w4 W).mono fun e W' ⟨he, hg⟩ => ?_
  subst he
  exact ⟨_, rfl, post_of_same (pa := []) (pv := []) hW' (fun _ _ _ => (trodAll_cons_mk (shut_bool Try.underlying4 _) trodAll_mk0)) (fun sp _ => (trodAll_cons_mk (shut_int Try.underlying2 w0) (trodAll_cons_mk (shut_int Try.underlying2 w1) (trodAll_cons_mk (shut_int Try.underlying2 w2) (trodAll_cons_mk (shut_int Try.underlying2 w3) (trodAll_cons_mk (shut_int Try.underlying2 w4) trodAll_mk0)))))) (fun _ _ => rfl) rfl
    (hg.frame _) hg.2.1 (ok_one (by kernel_rfl) rfl (okWide_bool_mk Try.underlying4 _))⟩

theorem over : Rows.fnStepsAtRestartsAtAnyFigureRow.holds Try.pinned (OpenSpec.ofChange Rows.fnStepsAtRestartsAtAnyFigureSpec) :=
  OpenClaim.holds_of_wide 4 Try.f4 rfl rfl rfl rfl rfl rfl rfl ⟨rfl, rfl, rfl, rfl, rfl⟩ rfl rfl rfl rfl rfl (by kernel_rfl) Try.func4 (by kernel_rfl)
    (of_decide_eq_true (by kernel_rfl)) (by unfold Func.isWrapper; first | (rw [if_pos (by decide +kernel)]; kernel_rfl) | (rw [if_neg (by decide +kernel)]; exact ⟨rfl, rfl⟩))
    (fun os started H enc _ => lifted os started H enc)

/-- ████ THE STATEMENT ████ -/
theorem proved : Rows.FnStepsAtRestartsAtAnyFigureSaid :=
  over
end Go.Proofs.Qxb6615155a.fnStepsAtRestartsAtAnyFigure
