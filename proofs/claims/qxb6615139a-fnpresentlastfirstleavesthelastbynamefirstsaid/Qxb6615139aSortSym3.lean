/-
  symMerge_func, the general step ('the middle lies in the right row').
-/
import Derived.Test.Qxb6615139aSortSym2
namespace Go.Proofs.Qxb6615139a
open Go.RowKit Plain

set_option maxHeartbeats 4000000 in
set_option maxRecDepth 100000 in
theorem sym_lo (W0 : World) (blk N : Nat) (ok : Nat × Nat → Prop) (lt : Nat × Nat → Nat × Nat → Bool) (hO : Ord lt) (lb sb : Array Value) (hN : N ≤ 1048576) (hsw : SwapOk sb blk N) (hle : LessOk lb W0 blk N ok lt) (a m b mid : Nat) (ham : a + 1 < m) (hmb : m + 1 < b) (hb : b ≤ N) (hmid : ((a : Int) + b) / 2 = mid) (hm : m ≤ mid) (hIH : SymTo lb sb W0 blk N ok lt (b - a)) (d : Nat → Nat × Nat) (w : World) (h : St W0 blk N ok d w) (hs1 : Srt lt a m d) (hs2 : Srt lt m b d) :
    Calls Try.prog 45 #[.agg #[.func (.func 30) #[] lb, .func (.func 43) #[] sb], .int .i64 a, .int .i64 m, .int .i64 b] w fun e w' => e = .returned (.tuple #[]) ∧ Sorts W0 blk N ok lt a b d w w' := by
  have hblk : blk < w.heap.size := Nat.lt_of_lt_of_le h.lt h.kp.size
  have HS : Hid (SwapOk sb blk N) := hsw
  have HL : Hid (LessOk lb W0 blk N ok lt) := hle
  have HO : Hid (Ord lt) := hO
  have HSR : Hid (Srt lt a m d ∧ Srt lt m b d) := ⟨hs1, hs2⟩
  have HIH : Hid (SymTo lb sb W0 blk N ok lt (b - a)) := hIH
  have H0 : Hid (St W0 blk N ok d (w.alloc (box lb sb))) := h.alloc _
  have hm1 : a + b ≤ 2 * mid + 1 := by omega
  have hm2 : 2 * mid ≤ a + b := by omega
  clear h hsw hle hO hs1 hs2 hIH
  have hno : ((m : Int) - a == 1) = false := by rw [beq_eq_false_iff_ne]; omega
  have hno2 : ((b : Int) - m == 1) = false := by rw [beq_eq_false_iff_ne]; omega
  have hdec : decide (mid < m) = false := by simp; omega
  go_enter Try.func45, Try.ntmps45
  go_wp2
  go_loopw [18, 19] (fun vi vj wr => ∃ (s r : Nat), vi = .int .i64 s ∧ vj = .int .i64 r ∧ a ≤ s ∧ s ≤ r ∧ r ≤ m ∧ Did W0 blk N ok d d (w.alloc (box lb sb)) wr ∧ (s = a ∨ lt (d (mid + m - 1 - (s - 1))) (d (s - 1)) = false) ∧ (r = m ∨ lt (d (mid + m - 1 - r)) (d r) = true)) (fun vi vj _ => (intOf vj).toNat - (intOf vi).toNat)
  case atStart => exact ⟨a, m, ie (by omega), rfl, Nat.le_refl _, by omega, Nat.le_refl _, Did.refl H0.out, Or.inl rfl, Or.inl rfl⟩
  case round =>
    obtain ⟨s, r, rfl, rfl, hs1, hsr, hr1, hD, hlo, hhi⟩ := hrel
    have HB : Hid ((s = a ∨ lt (d (mid + m - 1 - (s - 1))) (d (s - 1)) = false) ∧ (r = m ∨ lt (d (mid + m - 1 - r)) (d r) = true)) := ⟨hlo, hhi⟩
    have HD : Hid (Did W0 blk N ok d d (w.alloc (box lb sb)) wr) := hD
    obtain ⟨hc0, hc1⟩ := box_cells hblk hD.kp
    clear hlo hhi
    by_cases hlt : s < r
    · have hcall := less_call HL.out hD.st (mid + m - 1 - (s + r) / 2) ((s + r) / 2) ((mid : Int) + m - 1 - ((s : Int) + r) / 2) (((s : Int) + r) / 2) (by omega) (by omega) (by omega) (by omega)
      clear hD
      cases hlv : lt (d (mid + m - 1 - (s + r) / 2)) (d ((s + r) / 2)) with
      | false =>
        rw [hlv] at hcall
        have HV : Hid (lt (d (mid + m - 1 - (s + r) / 2)) (d ((s + r) / 2)) = false) := hlv
        clear hlv
        go_wp2_with (go_at_call 30; refine hcall.mono ?_; rintro e w' ⟨rfl, hb'⟩; have HB' : Hid (Below wr.heap.size wr w') := hb'; clear hb')
        exact ⟨⟨(s + r) / 2 + 1, r, ie (by omega), rfl, by omega, by omega, hr1, HD.out.below HB'.out, Or.inr HV.out, HB.out.2⟩, by simp [intOf]; omega⟩
      | true =>
        rw [hlv] at hcall
        have HV : Hid (lt (d (mid + m - 1 - (s + r) / 2)) (d ((s + r) / 2)) = true) := hlv
        clear hlv
        go_wp2_with (go_at_call 30; refine hcall.mono ?_; rintro e w' ⟨rfl, hb'⟩; have HB' : Hid (Below wr.heap.size wr w') := hb'; clear hb')
        exact ⟨⟨s, (s + r) / 2, rfl, ie (by omega), hs1, by omega, by omega, HD.out.below HB'.out, HB.out.1, Or.inr HV.out⟩, by simp [intOf]; omega⟩
    · have e0 : r = s := by omega
      subst e0
      obtain ⟨e, he⟩ : ∃ e : Nat, (mid : Int) + m - r = e := ⟨mid + m - r, by omega⟩
      have hC : Cut lt a m b mid r e d := by
        refine ⟨by omega, by omega, by omega, by omega, by omega, by omega, ?_, ?_⟩
        · rcases HB.out.1 with h | h
          · first | exact Or.inl h | exact Or.inr (Or.inl (by omega))
          · rcases Nat.eq_zero_or_pos r with h0 | h0
            · exact Or.inl (by omega)
            · right; right
              rwa [show mid + m - 1 - (r - 1) = e by omega] at h
        · rcases HB.out.2 with h | h
          · first | exact Or.inl h | exact Or.inr (Or.inl (by omega))
          · right; right
            rwa [show mid + m - 1 - r = e - 1 by omega] at h
      have hX := cut_left HO.out hC HSR.out.1 HSR.out.2
      have HC : Hid (Cut lt a m b mid r e d) := hC
      have HX : Hid _ := hX
      have hem : m ≤ e := hC.me
      have heb : e ≤ b := hC.eb
      have hmide : mid ≤ e := by omega
      clear hC hX hD HB
      obtain ⟨s, hsx⟩ : ∃ s, s = r := ⟨r, rfl⟩
      subst hsx
      by_cases c1 : s < m ∧ m < e
      · by_cases c2 : a < s ∧ s < mid
        · by_cases c3 : mid < e ∧ e < b
          · go_wp2_with fail
            refine (rotate_any W0 blk N ok lb sb hN HS.out s m e c1.1 c1.2 (by omega) d wr HD.out.st).mono ?_
            rintro e' w1 ⟨rfl, hd1⟩
            have HD1 : Hid (Did W0 blk N ok d (rot d s m e) (w.alloc (box lb sb)) w1) := HD.out.trans hd1
            clear hd1 HD
            have hbx1 := box_cells hblk HD1.out.kp
            obtain ⟨hc0, hc1⟩ := hbx1
            go_wp2_with fail
            refine (HIH.out a s mid (rot d s m e) w1 c2.1 c2.2 (by omega) (by omega) HD1.out.st HX.out.1 HX.out.2.1).mono ?_
            rintro e' w2 ⟨rfl, ⟨d2, hd2, hw2, hs2⟩⟩
            have HD2 : Hid (Did W0 blk N ok d d2 (w.alloc (box lb sb)) w2) := HD1.out.trans hd2
            have HW2 : Hid (Within a mid (rot d s m e) d2 ∧ Srt lt a mid d2) := ⟨hw2, hs2⟩
            clear hd2 hw2 hs2 HD1 hc0 hc1
            obtain ⟨hc0, hc1⟩ := box_cells hblk HD2.out.kp
            go_wp2_with fail
            refine (HIH.out mid e b d2 w2 c3.1 c3.2 hb (by omega) HD2.out.st (srt_off HW2.out.1 HX.out.2.2.1 (Nat.le_refl _)) (srt_off HW2.out.1 HX.out.2.2.2.1 (by omega))).mono ?_
            rintro e' w3 ⟨rfl, ⟨d3, hd3, hw3, hs3⟩⟩
            have HD3 : Hid (Did W0 blk N ok d d3 (w.alloc (box lb sb)) w3) := HD2.out.trans hd3
            have HW3 : Hid (Within mid b d2 d3 ∧ Srt lt mid b d3) := ⟨hw3, hs3⟩
            clear hd3 hw3 hs3
            go_wp2
            go_end0
            exact ⟨rfl, ⟨d3, HD3.out.boxed, sym_finish HC.out HX.out.2.2.2.2 (by omega) (by omega) HW2.out.1 HW2.out.2 HW3.out.1 HW3.out.2⟩⟩
          · exfalso; omega
        · by_cases c3 : mid < e ∧ e < b
          · go_wp2_with fail
            refine (rotate_any W0 blk N ok lb sb hN HS.out s m e c1.1 c1.2 (by omega) d wr HD.out.st).mono ?_
            rintro e' w1 ⟨rfl, hd1⟩
            have HD1 : Hid (Did W0 blk N ok d (rot d s m e) (w.alloc (box lb sb)) w1) := HD.out.trans hd1
            clear hd1 HD
            have hbx1 := box_cells hblk HD1.out.kp
            obtain ⟨hc0, hc1⟩ := hbx1
            have HW2 : Hid (Within a mid (rot d s m e) (rot d s m e) ∧ Srt lt a mid (rot d s m e)) := ⟨Within.refl _ _ _, left_ok HC.out HX.out.1 HX.out.2.1 c2⟩
            go_wp2_with fail
            refine (HIH.out mid e b (rot d s m e) w1 c3.1 c3.2 hb (by omega) HD1.out.st (srt_off HW2.out.1 HX.out.2.2.1 (Nat.le_refl _)) (srt_off HW2.out.1 HX.out.2.2.2.1 (by omega))).mono ?_
            rintro e' w3 ⟨rfl, ⟨d3, hd3, hw3, hs3⟩⟩
            have HD3 : Hid (Did W0 blk N ok d d3 (w.alloc (box lb sb)) w3) := HD1.out.trans hd3
            have HW3 : Hid (Within mid b (rot d s m e) d3 ∧ Srt lt mid b d3) := ⟨hw3, hs3⟩
            clear hd3 hw3 hs3
            go_wp2
            go_end0
            exact ⟨rfl, ⟨d3, HD3.out.boxed, sym_finish HC.out HX.out.2.2.2.2 (by omega) (by omega) HW2.out.1 HW2.out.2 HW3.out.1 HW3.out.2⟩⟩
          · go_wp2_with fail
            refine (rotate_any W0 blk N ok lb sb hN HS.out s m e c1.1 c1.2 (by omega) d wr HD.out.st).mono ?_
            rintro e' w1 ⟨rfl, hd1⟩
            have HD1 : Hid (Did W0 blk N ok d (rot d s m e) (w.alloc (box lb sb)) w1) := HD.out.trans hd1
            clear hd1 HD
            have hbx1 := box_cells hblk HD1.out.kp
            obtain ⟨hc0, hc1⟩ := hbx1
            have HW2 : Hid (Within a mid (rot d s m e) (rot d s m e) ∧ Srt lt a mid (rot d s m e)) := ⟨Within.refl _ _ _, left_ok HC.out HX.out.1 HX.out.2.1 c2⟩
            go_wp2
            go_end0
            exact ⟨rfl, ⟨(rot d s m e), HD1.out.boxed, sym_finish HC.out HX.out.2.2.2.2 (by omega) (by omega) HW2.out.1 HW2.out.2 (Within.refl _ _ _) (right_ok HC.out (srt_off HW2.out.1 HX.out.2.2.1 (Nat.le_refl _)) (srt_off HW2.out.1 HX.out.2.2.2.1 (by have := HC.out.me; have := HC.out.sum; have := HC.out.ls; omega)) c3)⟩⟩
      · by_cases c2 : a < s ∧ s < mid
        · by_cases c3 : mid < e ∧ e < b
          · exfalso; omega
          · have HD1 : Hid (Did W0 blk N ok d (rot d s m e) (w.alloc (box lb sb)) wr) := by rw [rot_none d s m e HC.out.ls HC.out.me (by have := HC.out.ls; have := HC.out.me; omega)]; exact HD.out
            clear HD
            have hbx1 := box_cells hblk HD1.out.kp
            obtain ⟨hc0, hc1⟩ := hbx1
            go_wp2_with fail
            refine (HIH.out a s mid (rot d s m e) wr c2.1 c2.2 (by omega) (by omega) HD1.out.st HX.out.1 HX.out.2.1).mono ?_
            rintro e' w2 ⟨rfl, ⟨d2, hd2, hw2, hs2⟩⟩
            have HD2 : Hid (Did W0 blk N ok d d2 (w.alloc (box lb sb)) w2) := HD1.out.trans hd2
            have HW2 : Hid (Within a mid (rot d s m e) d2 ∧ Srt lt a mid d2) := ⟨hw2, hs2⟩
            clear hd2 hw2 hs2 HD1 hc0 hc1
            obtain ⟨hc0, hc1⟩ := box_cells hblk HD2.out.kp
            go_wp2
            go_end0
            exact ⟨rfl, ⟨d2, HD2.out.boxed, sym_finish HC.out HX.out.2.2.2.2 (by omega) (by omega) HW2.out.1 HW2.out.2 (Within.refl _ _ _) (right_ok HC.out (srt_off HW2.out.1 HX.out.2.2.1 (Nat.le_refl _)) (srt_off HW2.out.1 HX.out.2.2.2.1 (by have := HC.out.me; have := HC.out.sum; have := HC.out.ls; omega)) c3)⟩⟩
        · by_cases c3 : mid < e ∧ e < b
          · exfalso; omega
          · have HD1 : Hid (Did W0 blk N ok d (rot d s m e) (w.alloc (box lb sb)) wr) := by rw [rot_none d s m e HC.out.ls HC.out.me (by have := HC.out.ls; have := HC.out.me; omega)]; exact HD.out
            clear HD
            have hbx1 := box_cells hblk HD1.out.kp
            obtain ⟨hc0, hc1⟩ := hbx1
            have HW2 : Hid (Within a mid (rot d s m e) (rot d s m e) ∧ Srt lt a mid (rot d s m e)) := ⟨Within.refl _ _ _, left_ok HC.out HX.out.1 HX.out.2.1 c2⟩
            go_wp2
            go_end0
            exact ⟨rfl, ⟨(rot d s m e), HD1.out.boxed, sym_finish HC.out HX.out.2.2.2.2 (by omega) (by omega) HW2.out.1 HW2.out.2 (Within.refl _ _ _) (right_ok HC.out (srt_off HW2.out.1 HX.out.2.2.1 (Nat.le_refl _)) (srt_off HW2.out.1 HX.out.2.2.2.1 (by have := HC.out.me; have := HC.out.sum; have := HC.out.ls; omega)) c3)⟩⟩

end Go.Proofs.Qxb6615139a
