/-
  symMerge_func where the left row is one element.
-/
import Derived.Test.Qxb6615139aSortIns
namespace Go.Proofs.Qxb6615139a
open Go.RowKit Plain

theorem ie {x y : Int} (h : x = y) : Value.int .i64 x = .int .i64 y := by rw [h]

theorem within_rl {α : Type} (d : Nat → α) (a b k : Nat) (h1 : a ≤ k) (h2 : k < b) : Within a b d (rl d a k) := by
  refine ⟨fun t ht => ?_, fun t g1 g2 => ?_⟩
  · simp only [rl]
    rw [if_neg (by omega), if_neg (by omega)]
  · simp only [rl]
    split
    · exact ⟨_, by omega, by omega, rfl⟩
    · split
      · exact ⟨a, by omega, by omega, rfl⟩
      · exact ⟨t, g1, g2, rfl⟩

theorem within_rr {α : Type} (d : Nat → α) (a b m k : Nat) (h1 : a ≤ k) (h2 : k ≤ m) (h3 : m < b) : Within a b d (rr d m k) := by
  refine ⟨fun t ht => ?_, fun t g1 g2 => ?_⟩
  · simp only [rr]
    rw [if_neg (by omega), if_neg (by omega)]
  · simp only [rr]
    split
    · exact ⟨m, by omega, by omega, rfl⟩
    · split
      · exact ⟨_, by omega, by omega, rfl⟩
      · exact ⟨t, g1, g2, rfl⟩

theorem less_call {lb : Array Value} {W0 : World} {blk N : Nat} {ok : Nat × Nat → Prop} {lt : Nat × Nat → Nat × Nat → Bool} (hle : LessOk lb W0 blk N ok lt) {d : Nat → Nat × Nat} {w : World} (h : St W0 blk N ok d w) (i j : Nat) (x y : Int) (hx : (i : Int) = x) (hy : (j : Int) = y) (hi : i < N) (hj : j < N) :
    Calls Try.prog 30 (#[.int .i64 x, .int .i64 y] ++ lb) w fun e w' => e = .returned (.bool (lt (d i) (d j))) ∧ Below w.heap.size w w' := by
  subst hx hy; exact hle d w h.kp h.row h.ok i j hi hj

theorem swap_call {sb : Array Value} {W0 : World} {blk N : Nat} {ok : Nat × Nat → Prop} (hsw : SwapOk sb blk N) {d : Nat → Nat × Nat} {w : World} (h : St W0 blk N ok d w) (i j : Nat) (x y : Int) (hx : (i : Int) = x) (hy : (j : Int) = y) (hi : i < N) (hj : j < N) :
    (callFunc 43 (#[.int .i64 x, .int .i64 y] ++ sb)).run Try.prog w = .ok (.value (.tuple #[])) ((w.setCells blk (i * 2) (pc (d j))).setCells blk (j * 2) (pc (d i))) := by
  subst hx hy; exact hsw d w h.row i j hi hj

set_option maxHeartbeats 2000000 in
set_option maxRecDepth 100000 in
theorem sym_left (W0 : World) (blk N : Nat) (ok : Nat × Nat → Prop) (lt : Nat × Nat → Nat × Nat → Bool) (hO : Ord lt) (lb sb : Array Value) (hN : N ≤ 1048576) (hsw : SwapOk sb blk N) (hle : LessOk lb W0 blk N ok lt) (a b : Nat) (hab : a + 1 < b) (hb : b ≤ N) (d : Nat → Nat × Nat) (w : World) (h : St W0 blk N ok d w) (hs : Srt lt (a + 1) b d) :
    Calls Try.prog 45 #[.agg #[.func (.func 30) #[] lb, .func (.func 43) #[] sb], .int .i64 a, .int .i64 ((a : Int) + 1), .int .i64 b] w fun e w' => e = .returned (.tuple #[]) ∧ Sorts W0 blk N ok lt a b d w w' := by
  have hblk : blk < w.heap.size := Nat.lt_of_lt_of_le h.lt h.kp.size
  have HS : Hid (SwapOk sb blk N) := hsw
  have HL : Hid (LessOk lb W0 blk N ok lt) := hle
  have HO : Hid (Ord lt) := hO
  have HSR : Hid (Srt lt (a + 1) b d) := hs
  have H0 : Hid (St W0 blk N ok d (w.alloc (box lb sb))) := h.alloc _
  clear h hsw hle hO hs
  have hone : ((a : Int) + 1 - a == 1) = true := by rw [beq_iff_eq]; omega
  go_enter Try.func45, Try.ntmps45
  go_wp2
  go_loopw [8, 9] (fun vi vj wr => ∃ (i j : Nat), vi = .int .i64 i ∧ vj = .int .i64 j ∧ a + 1 ≤ i ∧ i ≤ j ∧ j ≤ b ∧ Did W0 blk N ok d d (w.alloc (box lb sb)) wr ∧ (i = a + 1 ∨ lt (d (i - 1)) (d a) = true) ∧ (j = b ∨ lt (d j) (d a) = false)) (fun vi vj _ => (intOf vj).toNat - (intOf vi).toNat)
  case atStart => exact ⟨a + 1, b, by go_num, rfl, Nat.le_refl _, by omega, Nat.le_refl _, Did.refl H0.out, Or.inl rfl, Or.inl rfl⟩
  case round =>
    obtain ⟨i, j, rfl, rfl, hi1, hij, hjb, hD, hlo, hhi⟩ := hrel
    have HD : Hid (Did W0 blk N ok d d (w.alloc (box lb sb)) wr ∧ (i = a + 1 ∨ lt (d (i - 1)) (d a) = true) ∧ (j = b ∨ lt (d j) (d a) = false)) := ⟨hD, hlo, hhi⟩
    obtain ⟨hc0, hc1⟩ := box_cells hblk hD.kp
    clear hlo hhi
    by_cases hlt : i < j
    · have hcall := less_call HL.out hD.st ((i + j) / 2) a (((i : Int) + j) / 2) a (by omega) rfl (by omega) (by omega)
      clear hD
      cases hlv : lt (d ((i + j) / 2)) (d a) with
      | true =>
        rw [hlv] at hcall
        have HV : Hid (lt (d ((i + j) / 2)) (d a) = true) := hlv
        clear hlv
        go_wp2_with (go_at_call 30; refine hcall.mono ?_; rintro e w' ⟨rfl, hb'⟩; have HB' : Hid (Below wr.heap.size wr w') := hb'; clear hb')
        exact ⟨⟨(i + j) / 2 + 1, j, ie (by omega), rfl, by omega, by omega, hjb, HD.out.1.below HB'.out, Or.inr HV.out, HD.out.2.2⟩, by simp [intOf]; omega⟩
      | false =>
        rw [hlv] at hcall
        have HV : Hid (lt (d ((i + j) / 2)) (d a) = false) := hlv
        clear hlv
        go_wp2_with (go_at_call 30; refine hcall.mono ?_; rintro e w' ⟨rfl, hb'⟩; have HB' : Hid (Below wr.heap.size wr w') := hb'; clear hb')
        exact ⟨⟨i, (i + j) / 2, rfl, ie (by omega), hi1, by omega, by omega, HD.out.1.below HB'.out, HD.out.2.1, Or.inr HV.out⟩, by simp [intOf]; omega⟩
    · have e : j = i := by omega
      subst e
      clear hD
      go_wp2
      go_loopw [11] (fun vk wr => ∃ k : Nat, vk = .int .i64 k ∧ a ≤ k ∧ k ≤ j - 1 ∧ Did W0 blk N ok d (rl d a k) (w.alloc (box lb sb)) wr) (fun vk _ => j - (intOf vk).toNat)
      case atStart => exact ⟨a, rfl, Nat.le_refl _, by omega, by rw [rl_start]; exact HD.out.1⟩
      case round =>
        obtain ⟨k, rfl, hak, hki, hD2⟩ := hrel
        have HD2 : Hid (Did W0 blk N ok d (rl d a k) (w.alloc (box lb sb)) wr) := hD2
        obtain ⟨hc0, hc1⟩ := box_cells hblk hD2.kp
        by_cases hlk : k < j - 1
        · have hrun := swap_call HS.out hD2.st k (k + 1) k ((k : Int) + 1) rfl (by omega) (by omega) (by omega)
          have hD3 := hD2.swap (i := k) (j := k + 1) (by omega) (by omega)
          rw [rl_step _ _ _ hak] at hD3
          have HD3 : Hid _ := hD3
          clear hD2 hD3
          go_wp2
          exact ⟨⟨k + 1, ie (by omega), by omega, by omega, HD3.out⟩, by simp [intOf]; omega⟩
        · have HE : Hid (k = j - 1) := by show k = j - 1; omega
          clear hD2
          go_wp2
          refine bodyPost_ret (results_none rfl _ _ _) rfl ?_
          have hF := HD2.out
          rw [HE.out] at hF
          exact ⟨rfl, ⟨_, hF.boxed, within_rl d a b (j - 1) (by omega) (by omega), srt_rl HO.out HSR.out hi1 hjb HD.out.2.1 HD.out.2.2⟩⟩

set_option maxHeartbeats 2000000 in
set_option maxRecDepth 100000 in
/-- .. where the right row is one element -/
theorem sym_right (W0 : World) (blk N : Nat) (ok : Nat × Nat → Prop) (lt : Nat × Nat → Nat × Nat → Bool) (hO : Ord lt) (lb sb : Array Value) (hN : N ≤ 1048576) (hsw : SwapOk sb blk N) (hle : LessOk lb W0 blk N ok lt) (a m : Nat) (ham : a + 1 < m) (hb : m + 1 ≤ N) (d : Nat → Nat × Nat) (w : World) (h : St W0 blk N ok d w) (hs : Srt lt a m d) :
    Calls Try.prog 45 #[.agg #[.func (.func 30) #[] lb, .func (.func 43) #[] sb], .int .i64 a, .int .i64 m, .int .i64 ((m : Int) + 1)] w fun e w' => e = .returned (.tuple #[]) ∧ Sorts W0 blk N ok lt a (m + 1) d w w' := by
  have hblk : blk < w.heap.size := Nat.lt_of_lt_of_le h.lt h.kp.size
  have HS : Hid (SwapOk sb blk N) := hsw
  have HL : Hid (LessOk lb W0 blk N ok lt) := hle
  have HO : Hid (Ord lt) := hO
  have HSR : Hid (Srt lt a m d) := hs
  have H0 : Hid (St W0 blk N ok d (w.alloc (box lb sb))) := h.alloc _
  clear h hsw hle hO hs
  have hno : ((m : Int) - a == 1) = false := by rw [beq_eq_false_iff_ne]; omega
  have hone : ((m : Int) + 1 - m == 1) = true := by rw [beq_iff_eq]; omega
  go_enter Try.func45, Try.ntmps45
  go_wp2
  go_loopw [12, 13] (fun vi vj wr => ∃ (i j : Nat), vi = .int .i64 i ∧ vj = .int .i64 j ∧ a ≤ i ∧ i ≤ j ∧ j ≤ m ∧ Did W0 blk N ok d d (w.alloc (box lb sb)) wr ∧ (i = a ∨ lt (d m) (d (i - 1)) = false) ∧ (j = m ∨ lt (d m) (d j) = true)) (fun vi vj _ => (intOf vj).toNat - (intOf vi).toNat)
  case atStart => exact ⟨a, m, rfl, rfl, Nat.le_refl _, by omega, Nat.le_refl _, Did.refl H0.out, Or.inl rfl, Or.inl rfl⟩
  case round =>
    obtain ⟨i, j, rfl, rfl, hi1, hij, hjb, hD, hlo, hhi⟩ := hrel
    have HD : Hid (Did W0 blk N ok d d (w.alloc (box lb sb)) wr ∧ (i = a ∨ lt (d m) (d (i - 1)) = false) ∧ (j = m ∨ lt (d m) (d j) = true)) := ⟨hD, hlo, hhi⟩
    obtain ⟨hc0, hc1⟩ := box_cells hblk hD.kp
    clear hlo hhi
    by_cases hlt : i < j
    · have hcall := less_call HL.out hD.st m ((i + j) / 2) m (((i : Int) + j) / 2) rfl (by omega) (by omega) (by omega)
      clear hD
      cases hlv : lt (d m) (d ((i + j) / 2)) with
      | false =>
        rw [hlv] at hcall
        have HV : Hid (lt (d m) (d ((i + j) / 2)) = false) := hlv
        clear hlv
        go_wp2_with (go_at_call 30; refine hcall.mono ?_; rintro e w' ⟨rfl, hb'⟩; have HB' : Hid (Below wr.heap.size wr w') := hb'; clear hb')
        exact ⟨⟨(i + j) / 2 + 1, j, ie (by omega), rfl, by omega, by omega, hjb, HD.out.1.below HB'.out, Or.inr HV.out, HD.out.2.2⟩, by simp [intOf]; omega⟩
      | true =>
        rw [hlv] at hcall
        have HV : Hid (lt (d m) (d ((i + j) / 2)) = true) := hlv
        clear hlv
        go_wp2_with (go_at_call 30; refine hcall.mono ?_; rintro e w' ⟨rfl, hb'⟩; have HB' : Hid (Below wr.heap.size wr w') := hb'; clear hb')
        exact ⟨⟨i, (i + j) / 2, rfl, ie (by omega), hi1, by omega, by omega, HD.out.1.below HB'.out, HD.out.2.1, Or.inr HV.out⟩, by simp [intOf]; omega⟩
    · have e : j = i := by omega
      subst e
      clear hD
      go_wp2
      go_loopw [15] (fun vk wr => ∃ k : Nat, vk = .int .i64 k ∧ j ≤ k ∧ k ≤ m ∧ Did W0 blk N ok d (rr d m k) (w.alloc (box lb sb)) wr) (fun vk _ => (intOf vk).toNat)
      case atStart => exact ⟨m, rfl, by omega, Nat.le_refl _, by rw [rr_start]; exact HD.out.1⟩
      case round =>
        obtain ⟨k, rfl, hjk, hkm, hD2⟩ := hrel
        have HD2 : Hid (Did W0 blk N ok d (rr d m k) (w.alloc (box lb sb)) wr) := hD2
        obtain ⟨hc0, hc1⟩ := box_cells hblk hD2.kp
        by_cases hlk : j < k
        · have hrun := swap_call HS.out hD2.st k (k - 1) k ((k : Int) - 1) rfl (by omega) (by omega) (by omega)
          have hD3 := hD2.swap (i := k) (j := k - 1) (by omega) (by omega)
          rw [rr_step _ _ _ hkm (by omega)] at hD3
          have HD3 : Hid _ := hD3
          clear hD2 hD3
          go_wp2
          exact ⟨⟨k - 1, ie (by omega), by omega, by omega, HD3.out⟩, by simp [intOf]; omega⟩
        · have HE : Hid (k = j) := by show k = j; omega
          clear hD2
          go_wp2
          refine bodyPost_ret (results_none rfl _ _ _) rfl ?_
          have hF := HD2.out
          rw [HE.out] at hF
          exact ⟨rfl, ⟨_, hF.boxed, within_rr d a (m + 1) m j (by omega) (by omega) (by omega), srt_rr HO.out HSR.out hi1 hjb HD.out.2.1 HD.out.2.2⟩⟩
end Go.Proofs.Qxb6615139a
