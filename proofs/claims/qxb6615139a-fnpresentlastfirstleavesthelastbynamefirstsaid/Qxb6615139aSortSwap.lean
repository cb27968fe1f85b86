/-
  swapRange_func, rotate_func.
-/
import Derived.Test.Qxb6615139aSortMem
namespace Go.Proofs.Qxb6615139a
open Go.RowKit Plain

/-- the block in which a sort function lays 'data' -/
def box (lb sb : Array Value) : Obj := .cells #[.func (.func 30) #[] lb, .func (.func 43) #[] sb] 110

theorem box_cells {blk : Nat} {w wr : World} {lb sb : Array Value} (hblk : blk < w.heap.size) (h : Kp blk (w.alloc (box lb sb)) wr) :
    wr.cell? ⟨w.heap.size, 0, none⟩ = some (.func (.func 30) #[] lb) ∧ wr.cell? ⟨w.heap.size, 1, none⟩ = some (.func (.func 43) #[] sb) :=
  ⟨by rw [h.cell (p := ⟨w.heap.size, 0, none⟩) (by simp) (by show w.heap.size ≠ blk; omega)]; simp [box], by rw [h.cell (p := ⟨w.heap.size, 1, none⟩) (by simp) (by show w.heap.size ≠ blk; omega)]; simp [box]⟩

theorem Did.boxed {W0 : World} {blk N : Nat} {ok : Nat × Nat → Prop} {d d' : Nat → Nat × Nat} {w w' : World} {o : Obj} (h : Did W0 blk N ok d d' (w.alloc o) w') : Did W0 blk N ok d d' w w' :=
  ⟨h.st, (Kp.of_below ((Below.refl _ _).alloc (Nat.le_refl _) o)).trans h.kp, h.perm⟩

set_option maxHeartbeats 1000000 in
theorem swapRange_any (W0 : World) (blk N : Nat) (ok : Nat × Nat → Prop) (lb sb : Array Value) (hN : N ≤ 1048576) (hsw : SwapOk sb blk N) (a b n : Nat) (hab : a + n ≤ b) (hb : b + n ≤ N) (d : Nat → Nat × Nat) (w : World) (h : St W0 blk N ok d w) :
    Calls Try.prog 47 #[.agg #[.func (.func 30) #[] lb, .func (.func 43) #[] sb], .int .i64 a, .int .i64 b, .int .i64 n] w fun e w' => e = .returned (.tuple #[]) ∧ Did W0 blk N ok d (swr d a b n) w w' := by
  have hblk : blk < w.heap.size := Nat.lt_of_lt_of_le h.lt h.kp.size
  have HS : Hid (SwapOk sb blk N) := hsw
  have H0 : Hid (St W0 blk N ok d (w.alloc (box lb sb))) := h.alloc _
  clear h hsw
  go_enter Try.func47, Try.ntmps47
  go_wp2
  go_loopw [8] (fun i wr => ∃ k : Nat, k ≤ n ∧ i = .int .i64 k ∧ Did W0 blk N ok d (swr d a b k) (w.alloc (box lb sb)) wr) (fun i _ => n - (intOf i).toNat)
  case atStart => exact ⟨0, by omega, rfl, by rw [swr_zero]; exact Did.refl H0.out⟩
  case round =>
    obtain ⟨k, hk, rfl, hD⟩ := hrel
    have HD : Hid (Did W0 blk N ok d (swr d a b k) (w.alloc (box lb sb)) wr) := hD
    by_cases hlt : k < n
    · have hrun := HS.out _ _ hD.st.row (a + k) (b + k) (by omega) (by omega)
      rw [show ((a + k : Nat) : Int) = (a : Int) + k by omega, show ((b + k : Nat) : Int) = (b : Int) + k by omega] at hrun
      obtain ⟨_, hc⟩ := box_cells hblk hD.kp
      have HD' := hD.swap (i := a + k) (j := b + k) (by omega) (by omega)
      rw [swr_succ _ _ _ _ (by omega)] at HD'
      have HT : Hid _ := HD'
      clear hD HD'
      go_wp2
      exact ⟨⟨k + 1, by omega, by go_num, HT.out⟩, by simp [intOf]; omega⟩
    · have e : k = n := by omega
      subst e
      clear hD
      go_wp2
      go_end0
      exact ⟨rfl, HD.out.boxed⟩

set_option maxHeartbeats 2000000 in
theorem rotate_any (W0 : World) (blk N : Nat) (ok : Nat × Nat → Prop) (lb sb : Array Value) (hN : N ≤ 1048576) (hsw : SwapOk sb blk N) (a m b : Nat) (ham : a < m) (hmb : m < b) (hb : b ≤ N) (d : Nat → Nat × Nat) (w : World) (h : St W0 blk N ok d w) :
    Calls Try.prog 46 #[.agg #[.func (.func 30) #[] lb, .func (.func 43) #[] sb], .int .i64 a, .int .i64 m, .int .i64 b] w fun e w' => e = .returned (.tuple #[]) ∧ Did W0 blk N ok d (rot d a m b) w w' := by
  have hblk : blk < w.heap.size := Nat.lt_of_lt_of_le h.lt h.kp.size
  have HS : Hid (SwapOk sb blk N) := hsw
  have H0 : Hid (St W0 blk N ok d (w.alloc (box lb sb))) := h.alloc _
  clear h hsw
  go_enter Try.func46, Try.ntmps46
  go_wp2
  go_loopw [8, 9] (fun vi vj wr => ∃ (i j : Nat) (dk : Nat → Nat × Nat), 0 < i ∧ 0 < j ∧ i ≤ m ∧ a ≤ m - i ∧ m + j ≤ b ∧ vi = .int .i64 i ∧ vj = .int .i64 j ∧ rot dk (m - i) m (m + j) = rot d a m b ∧ Did W0 blk N ok d dk (w.alloc (box lb sb)) wr) (fun vi vj _ => (intOf vi).toNat + (intOf vj).toNat)
  case atStart => exact ⟨m - a, b - m, d, by omega, by omega, by omega, by omega, by omega, by congr 1; omega, by congr 1; omega, by rw [show m - (m - a) = a by omega, show m + (b - m) = b by omega], Did.refl H0.out⟩
  case round =>
    obtain ⟨i, j, dk, hi0, hj0, him, hai, hjb, rfl, rfl, hrot, hD⟩ := hrel
    have HR : Hid (rot dk (m - i) m (m + j) = rot d a m b) := hrot
    obtain ⟨hc0, hc1⟩ := box_cells hblk hD.kp
    clear hrot
    rcases Nat.lt_trichotomy i j with hij | hij | hij
    · have hne : ((i : Int) != (j : Int)) = true := by rw [bne_iff_ne]; omega
      have hcall := swapRange_any W0 blk N ok lb sb hN HS.out (m - i) (m + j - i) i (by omega) (by omega) dk wr hD.st
      rw [show ((m - i : Nat) : Int) = (m : Int) - i by omega, show ((m + j - i : Nat) : Int) = (m : Int) + j - i by omega] at hcall
      have HD : Hid (Did W0 blk N ok d dk (w.alloc (box lb sb)) wr) := hD
      clear hD
      go_wp2_with (go_at_call 47; refine hcall.mono ?_; rintro e w' ⟨rfl, hd⟩)
      exact ⟨⟨i, j - i, _, hi0, by omega, him, hai, by omega, rfl, by congr 1; omega, by rw [rot_lt _ _ _ _ hij him hi0]; exact HR.out, HD.out.trans hd⟩, by simp [intOf]; omega⟩
    · subst hij
      have hcall := swapRange_any W0 blk N ok lb sb hN HS.out (m - i) m i (by omega) (by omega) dk wr hD.st
      rw [show ((m - i : Nat) : Int) = (m : Int) - i by omega] at hcall
      have HD : Hid (Did W0 blk N ok d dk (w.alloc (box lb sb)) wr) := hD
      clear hD
      go_wp2_with (go_at_call 47; refine hcall.mono ?_; rintro e w' ⟨rfl, hd⟩)
      go_end0
      have e := HR.out
      rw [← rot_same dk m i him] at e
      rw [e] at hd
      exact ⟨rfl, (HD.out.trans hd).boxed⟩
    · have hne : ((i : Int) != (j : Int)) = true := by rw [bne_iff_ne]; omega
      have hcall := swapRange_any W0 blk N ok lb sb hN HS.out (m - i) m j (by omega) (by omega) dk wr hD.st
      rw [show ((m - i : Nat) : Int) = (m : Int) - i by omega] at hcall
      have HD : Hid (Did W0 blk N ok d dk (w.alloc (box lb sb)) wr) := hD
      clear hD
      go_wp2_with (go_at_call 47; refine hcall.mono ?_; rintro e w' ⟨rfl, hd⟩)
      exact ⟨⟨i - j, j, _, by omega, hj0, by omega, by omega, by omega, by congr 1; omega, rfl, by rw [rot_gt _ _ _ _ hij him hj0]; exact HR.out, HD.out.trans hd⟩, by simp [intOf]; omega⟩
end Go.Proofs.Qxb6615139a
