/-
  THE PROOF OF 'Rows.FnChunkedSplitCostsOneTrailerSaid' over the frame that proof-skeleton.mjs writes for this function; the walk is filled in.
-/
import Derived.Test.Qxb6615175aRows
import Derived.WalkKit
import Derived.ProofKit
import Derived.OpenShut
import Derived.ShutString
namespace Go.Proofs.Qxb6615175a.fnChunkedSplitCostsOneTrailer
open Go.ChangeShapes Go.WideShapes Go.ChangeAt Go.RowKit
open Go.ChangeMaps (open_string shut_string)
set_option linter.unusedVariables false      -- a walk need not use every 'w<i>' (that an integer argument fits its kind)

theorem own : ownKnob Try.prog.godebug = none := by kernel_rfl

theorem chunked_any (n : Int) (h0 : 0 ≤ n) (h1 : n ≤ 4611686018427387905) (w : World) :
    Calls Try.prog 6 #[.int .i64 n] w fun e w' => e = .returned (.int .i64 (n + 12 * (n / 4096 + 1) + 5)) ∧ w' = w := by
  go_enter Try.func6, Try.ntmps6
  go_wp2
  go_ret
  exact ⟨rfl, rfl⟩

theorem zzchunked_any (n : Int) (h0 : 0 ≤ n) (h1 : n ≤ 4611686018427387905) (w : World) :
    Calls Try.prog 5 #[.int .i64 n] w fun e w' => e = .returned (.int .i64 (n + 12 * (n / 4096 + 1) + 5)) ∧ w' = w := by
  go_enter Try.func5, Try.ntmps5
  go_wp2_with (go_at_call 6; refine (chunked_any _ (by omega) (by omega) _).mono ?_; rintro e w' ⟨rfl, rfl⟩)
  go_ret
  exact ⟨rfl, rfl⟩

theorem walk (a0 : Int) (a1 : Int) (w0 : (Lit.int .i64 a0).wf = true) (w1 : (Lit.int .i64 a1).wf = true) (w : World) :
    Calls Try.prog 3 #[.int .i64 a0, .int .i64 a1] w fun e w' => e = .returned (.bool true) ∧ Grown w w' := by
  clear w0 w1
  by_cases c1 : a0 < 0
  · go_enter Try.func3, Try.ntmps3
    go_wp2
    go_ret
    exact ⟨rfl, by repeat (first | exact Grown.refl _ | apply Grown.drew | apply Grown.alloc)⟩
  · by_cases c2 : a1 < 0
    · go_enter Try.func3, Try.ntmps3
      go_wp2
      go_ret
      exact ⟨rfl, by repeat (first | exact Grown.refl _ | apply Grown.drew | apply Grown.alloc)⟩
    · by_cases c3 : 2305843009213693952 < a0
      · go_enter Try.func3, Try.ntmps3
        go_wp2
        go_ret
        exact ⟨rfl, by repeat (first | exact Grown.refl _ | apply Grown.drew | apply Grown.alloc)⟩
      · by_cases c4 : 2305843009213693952 < a1
        · go_enter Try.func3, Try.ntmps3
          go_wp2
          go_ret
          exact ⟨rfl, by repeat (first | exact Grown.refl _ | apply Grown.drew | apply Grown.alloc)⟩
        · have h0 : 0 ≤ a0 := by omega
          have h1 : 0 ≤ a1 := by omega
          have h2 : a0 ≤ 2305843009213693952 := by omega
          have h3 : a1 ≤ 2305843009213693952 := by omega
          have e3 : a0 + a1 + 17 ≤ a0 + a1 + 12 * ((a0 + a1) / 4096 + 1) + 5 := by omega
          clear c1 c2 c3 c4
          by_cases c5 : 4096 ≤ a0 % 4096 + a1 % 4096
          · have e1 : (a0 + 12 * (a0 / 4096 + 1) + 5 + (a1 + 12 * (a1 / 4096 + 1) + 5) - (a0 + a1 + 12 * ((a0 + a1) / 4096 + 1) + 5) == 5) = true := by rw [beq_iff_eq]; omega
            go_enter Try.func3, Try.ntmps3
            go_wp2_with (go_at_call 5; refine (zzchunked_any _ (by omega) (by omega) _).mono ?_; rintro e w' ⟨rfl, rfl⟩)
            go_ret
            exact ⟨rfl, by repeat (first | exact Grown.refl _ | apply Grown.drew | apply Grown.alloc)⟩
          · have e1 : (a0 + 12 * (a0 / 4096 + 1) + 5 + (a1 + 12 * (a1 / 4096 + 1) + 5) - (a0 + a1 + 12 * ((a0 + a1) / 4096 + 1) + 5) == 17) = true := by rw [beq_iff_eq]; omega
            go_enter Try.func3, Try.ntmps3
            go_wp2_with (go_at_call 5; refine (zzchunked_any _ (by omega) (by omega) _).mono ?_; rintro e w' ⟨rfl, rfl⟩)
            go_ret
            exact ⟨rfl, by repeat (first | exact Grown.refl _ | apply Grown.drew | apply Grown.alloc)⟩

/-! ### THE ROW's STEP: WRITTEN OUT: LEAVE IT -/
set_option maxRecDepth 100000 in
theorem lifted (os : Os) (started : os.Started) (H : Type) (enc : TypeId × Value → H) :
    ReturnsInHanded {} Try.checked os 3 .any (Rows.fnChunkedSplitCostsOneTrailerSpec.pre6 enc Try.prog Try.f3 Rows.fnChunkedSplitCostsOneTrailerRow.domain false) (Rows.fnChunkedSplitCostsOneTrailerSpec.post enc Try.prog Try.f3 false true false false) := by
  refine returnsInHanded_of_change (C := Try.checked) own started (by kernel_rfl) Try.func3
    (ChangeSpec.witness6 (enc := enc) (C := Try.checked) false ⟨#[], #[.int .i64 0, .int .i64 0], []⟩ 8 (by kernel_rfl) (by kernel_rfl) (by kernel_rfl) (by kernel_rfl)) ?_
  intro W base args ds gs before hval0 hW hcnd _
  have hval : ∀ (j : Nat) t v, Try.f3.params[j]? = some t → args[j]? = some v → Value.okWide Try.prog W .any base t v := hval0
  have hW' := hW
  obtain ⟨p, q, hA0, hV, rfl, hfz, hnd⟩ := hW
  have hA : DataW.TrodAll enc Try.prog W 0 (fun _ => true) true Try.f3.params.toList args.toList ds p := hA0
  rw [Try.params3] at hA hval
  obtain ⟨v0, vs0, d0, ds0, p0, q0, hargs, rfl, rfl, h0, r0⟩ := trodAll_cons hA
  obtain ⟨v1, vs1, d1, ds1, p1, q1, rfl, rfl, rfl, h1, r1⟩ := trodAll_cons r0
  obtain ⟨rfl, rfl, rfl⟩ := trodAll_nil r1
  obtain rfl : args = #[v0, v1] := by cases args; simp_all
  obtain ⟨rfl, rfl⟩ := trodVars_none hV
  obtain ⟨a0, rfl, rfl, rfl, w0⟩ := open_int Try.underlying2 (hval 0 2 v0 rfl rfl) h0
  obtain ⟨a1, rfl, rfl, rfl, w1⟩ := open_int Try.underlying2 (hval 1 2 v1 rfl rfl) h1
  clear hA0 hval0
  simp only [List.append_nil] at hW'
  refine (walk a0 a1 w0 w1 W).mono fun e W' ⟨he, hg⟩ => ?_
  subst he
  exact ⟨_, rfl, post_of_same (pa := []) (pv := []) hW' (fun _ _ _ => (trodAll_cons_mk (shut_bool Try.underlying4 _) trodAll_mk0)) (fun sp _ => (trodAll_cons_mk (shut_int Try.underlying2 w0) (trodAll_cons_mk (shut_int Try.underlying2 w1) trodAll_mk0))) (fun _ _ => rfl) rfl
    (hg.frame _) hg.2.1 (ok_one (by kernel_rfl) rfl (okWide_bool_mk Try.underlying4 _))⟩

theorem over : Rows.fnChunkedSplitCostsOneTrailerRow.holds Try.pinned (OpenSpec.ofChange Rows.fnChunkedSplitCostsOneTrailerSpec) :=
  OpenClaim.holds_of_wide 3 Try.f3 rfl rfl rfl rfl rfl rfl rfl ⟨rfl, rfl, rfl, rfl, rfl⟩ rfl rfl rfl rfl rfl (by kernel_rfl) Try.func3 (by kernel_rfl)
    (of_decide_eq_true (by kernel_rfl)) (by unfold Func.isWrapper; first | (rw [if_pos (by decide +kernel)]; kernel_rfl) | (rw [if_neg (by decide +kernel)]; exact ⟨rfl, rfl⟩))
    (fun os started H enc _ => lifted os started H enc)

/-- ████ THE STATEMENT ████ -/
theorem proved : Rows.FnChunkedSplitCostsOneTrailerSaid :=
  over
end Go.Proofs.Qxb6615175a.fnChunkedSplitCostsOneTrailer
