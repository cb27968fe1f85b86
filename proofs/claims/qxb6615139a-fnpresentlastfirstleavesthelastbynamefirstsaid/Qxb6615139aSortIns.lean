/-
  insertionSort_func.
-/
import Derived.Test.Qxb6615139aSortSwap
namespace Go.Proofs.Qxb6615139a
open Go.RowKit Plain

/-- What a sort function owes on [a, b). -/
structure Sorts (W0 : World) (blk N : Nat) (ok : Nat × Nat → Prop) (lt : Nat × Nat → Nat × Nat → Bool) (a b : Nat) (d : Nat → Nat × Nat) (w w' : World) : Prop where
  ex : ∃ d', Did W0 blk N ok d d' w w' ∧ Within a b d d' ∧ Srt lt a b d'

set_option maxHeartbeats 2000000 in
theorem insertion_any (W0 : World) (blk N : Nat) (ok : Nat × Nat → Prop) (lt : Nat × Nat → Nat × Nat → Bool) (hO : Ord lt) (lb sb : Array Value) (hN : N ≤ 1048576) (hsw : SwapOk sb blk N) (hle : LessOk lb W0 blk N ok lt) (a b : Nat) (hab : a ≤ b) (hb : b ≤ N) (d : Nat → Nat × Nat) (w : World) (h : St W0 blk N ok d w) :
    Calls Try.prog 44 #[.agg #[.func (.func 30) #[] lb, .func (.func 43) #[] sb], .int .i64 a, .int .i64 b] w fun e w' => e = .returned (.tuple #[]) ∧ Sorts W0 blk N ok lt a b d w w' := by
  have hblk : blk < w.heap.size := Nat.lt_of_lt_of_le h.lt h.kp.size
  have HS : Hid (SwapOk sb blk N) := hsw
  have HL : Hid (LessOk lb W0 blk N ok lt) := hle
  have HO : Hid (Ord lt) := hO
  have H0 : Hid (St W0 blk N ok d (w.alloc (box lb sb))) := h.alloc _
  clear h hsw hle hO
  go_enter Try.func44, Try.ntmps44
  go_wp2
  go_loopw [6] (fun vi wr => ∃ (i : Nat) (dk : Nat → Nat × Nat), vi = .int .i64 i ∧ a < i ∧ i ≤ b + 1 ∧ Did W0 blk N ok d dk (w.alloc (box lb sb)) wr ∧ Within a b d dk ∧ Srt lt a i dk) (fun vi _ => b + 1 - (intOf vi).toNat)
  case atStart => exact ⟨a + 1, d, by go_num, by omega, by omega, Did.refl H0.out, Within.refl _ _ _, srt_one HO.out _ _ (Nat.le_refl _) _⟩
  case round =>
    obtain ⟨i, dk, rfl, hai, hib, hD, hW, hS⟩ := hrel
    have HD : Hid (Did W0 blk N ok d dk (w.alloc (box lb sb)) wr ∧ Within a b d dk ∧ Srt lt a i dk) := ⟨hD, hW, hS⟩
    clear hD hW hS
    by_cases hlt : i < b
    · go_wp2
      go_loopw [7] (fun vj wr2 => ∃ (j : Nat) (dj : Nat → Nat × Nat), vj = .int .i64 j ∧ a ≤ j ∧ j ≤ i ∧ Did W0 blk N ok d dj (w.alloc (box lb sb)) wr2 ∧ Within a b d dj ∧ Ins lt a i j dj) (fun vj _ => (intOf vj).toNat)
      case atStart => exact ⟨i, dk, rfl, by omega, Nat.le_refl _, HD.out.1, HD.out.2.1, Ins.start HD.out.2.2⟩
      case round =>
        obtain ⟨j, dj, rfl, haj, hji, hD2, hW2, hI2⟩ := hrel
        have HD2 : Hid (Did W0 blk N ok d dj (w.alloc (box lb sb)) wr ∧ Within a b d dj ∧ Ins lt a i j dj) := ⟨hD2, hW2, hI2⟩
        obtain ⟨hc0, hc1⟩ := box_cells hblk hD2.kp
        have hjb : j < N := by omega
        by_cases hja : a < j
        · have hcall := HL.out dj wr hD2.st.kp hD2.st.row hD2.st.ok j (j - 1) (by omega) (by omega)
          rw [show (((j - 1 : Nat) : Int)) = (j : Int) - 1 by omega] at hcall
          have hbox : ∀ w', Below wr.heap.size wr w' → w'.cell? ⟨w.heap.size, 1, none⟩ = some (.func (.func 43) #[] sb) := fun w' hb' => (box_cells hblk (hD2.kp.trans (Kp.of_below hb'))).2
          have hrn : ∀ w', Below wr.heap.size wr w' → (callFunc 43 (#[.int .i64 (j : Int), .int .i64 ((j : Int) - 1)] ++ sb)).run Try.prog w' = .ok (.value (.tuple #[])) ((w'.setCells blk (j * 2) (pc (dj (j - 1)))).setCells blk ((j - 1) * 2) (pc (dj j))) := fun w' hb' => by
            have := HS.out dj w' (hD2.st.below hb').row j (j - 1) (by omega) (by omega)
            rwa [show (((j - 1 : Nat) : Int)) = (j : Int) - 1 by omega] at this
          have HBX : Hid _ := hbox
          have HRN : Hid _ := hrn
          clear hD2 hW2 hI2 hbox hrn
          cases hlv : lt (dj j) (dj (j - 1)) with
          | true =>
            rw [hlv] at hcall
            have HV : Hid (lt (dj j) (dj (j - 1)) = true) := hlv
            clear hlv
            go_wp2_with (go_at_call 30; refine hcall.mono ?_; rintro e w' ⟨rfl, hb'⟩; have hc' := HBX.out w' hb'; have hrun := HRN.out w' hb'; have HB' : Hid (Below wr.heap.size wr w') := hb'; clear hb')
            have hd' := (HD2.out.1.below HB'.out).swap (i := j) (j := j - 1) (by omega) (by omega)
            exact ⟨⟨j - 1, sw dj j (j - 1), by congr 1; omega, by omega, by omega, hd', HD2.out.2.1.trans (within_sw a b dj j (j - 1) (by omega) (by omega) (by omega) (by omega)), HD2.out.2.2.step HO.out hja hji HV.out⟩, by simp [intOf]; omega⟩
          | false =>
            rw [hlv] at hcall
            have HV : Hid (lt (dj j) (dj (j - 1)) = false) := hlv
            clear hlv
            go_wp2_with (go_at_call 30; refine hcall.mono ?_; rintro e w' ⟨rfl, hb'⟩; have HB' : Hid (Below wr.heap.size wr w') := hb'; clear hb')
            exact ⟨⟨i + 1, dj, by go_num, by omega, by omega, HD2.out.1.below HB'.out, HD2.out.2.1, HD2.out.2.2.stop HO.out haj (Or.inr HV.out)⟩, by simp [intOf]; omega⟩
        · clear hD2 hW2 hI2
          go_wp2
          exact ⟨⟨i + 1, dj, by go_num, by omega, by omega, HD2.out.1, HD2.out.2.1, HD2.out.2.2.stop HO.out haj (Or.inl (by omega))⟩, by simp [intOf]; omega⟩
    · go_wp2
      go_end0
      exact ⟨rfl, ⟨dk, HD.out.1.boxed, HD.out.2.1, HD.out.2.2.part (Nat.le_refl _) (by omega)⟩⟩
end Go.Proofs.Qxb6615139a
