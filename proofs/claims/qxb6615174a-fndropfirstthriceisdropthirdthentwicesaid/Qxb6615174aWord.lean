/-
  THE CONTRACTS OF toWord, joinWords, sameWord, dropFirst.
-/
import Derived.Test.Qxb6615174aRows
import Derived.Test.Qxb6615174aHeap
import Derived.WalkSpells
import Derived.WalkLawsBesides
import Derived.Lib.SliceRun
namespace Go.Proofs.Qxb6615174a
open Go.RowKit

theorem Try.info34 : (Try.prog.info? 34).map (fun i => (i.zero, i.size, i.bytes)) = some (some (.agg #[.int .i32 0, .int .i32 0, .bool false, .bool false]), 4, 12) := by kernel_rfl

/-- The cells of a new row of letters. -/
def zeros (n : Nat) : Array Value := madeCells #[.int .i32 0, .int .i32 0, .bool false, .bool false] (n * 4)

theorem run_make_letters (kl kc : IntKind) (n : Nat) (hn : n ≤ 1048576) (w : World) :
    (Instr.makeSlice 25 (.int kl (n : Int)) (.int kc (n : Int))).run Try.prog w = .ok (.slice (some ⟨w.heap.size, 0, none⟩) n n) (w.alloc (.cells (zeros n) 34)) := by
  obtain ⟨i, hi, hzz⟩ := Option.map_eq_some_iff.1 Try.info34
  simp only [Prod.mk.injEq] at hzz
  obtain ⟨hz, hs, hb⟩ := hzz
  have hr := run_make (P := Try.prog) w 25 34 i _ Try.underlying25 hi hz kl kc n n (by omega) (Int.le_refl _) (by rw [hb]; omega) (by omega)
  simp only [Int.toNat_natCast, hs] at hr
  exact hr

theorem there_zeros (w : World) (n : Nat) : (w.alloc (.cells (zeros n) 34)).there w.heap.size 0 (n * 4) := by
  have h := World.rowIs_alloc w (zeros n) 34 (fun i => (zeros n)[i]!) (fun i (hi : i < (zeros n).size) => by simp [hi])
  intro j hj
  have hs : (zeros n).size = n * 4 := size_madeCells _ _
  rw [Nat.zero_add, h.cell (by rw [hs]; exact hj)]
  exact ⟨rfl, h.frozen j⟩

theorem fill_start (w : World) (n : Nat) : Fill w.heap.size w (w.alloc (.cells (zeros n) 34)) n [] :=
  ⟨(Below.refl _ _).alloc (Nat.le_refl _) _, by simp, there_zeros _ _, fun i x hx => by simp at hx⟩

set_option maxHeartbeats 400000 in
theorem toWord_some (A : Addr) (cap : Nat) (L : List Lt) (w : World) (hn : L.length ≤ 1048576) (hL : RdAt w (some A) L) :
    Calls Try.prog 9 #[.slice (some A) L.length cap] w fun e w' =>
      e = .returned (.slice (some ⟨w.heap.size, 0, none⟩) L.length L.length) ∧ Fill w.heap.size w w' L.length L := by
  have hnil := fun (w : World) => Lib.run_eql_slice_nil (P := Try.prog) w 22 33 (some A) L.length cap 0 0 Try.underlying22
  have hmk := run_make_letters .i64 .i64 L.length hn
  go_enter Try.func9, Try.ntmps9
  go_wp2
  go_loopw [4] (fun i wr => ∃ k : Nat, k ≤ L.length ∧ i = .int .i64 k ∧ Fill w.heap.size w wr L.length (L.take k)) (fun i _ => L.length - (intOf i).toNat)
  case atStart => exact ⟨0, by omega, rfl, fill_start _ _⟩
  case round =>
   obtain ⟨k, hk, rfl, hF⟩ := hrel
   by_cases hlt : k < L.length
   · obtain ⟨x, hx⟩ : ∃ x, L[k]? = some x := ⟨L[k], List.getElem?_eq_getElem hlt⟩
     obtain ⟨b, off, hA, hbb, hsrc0⟩ := hL.at hx
     obtain ⟨s0, s1, s2, s3⟩ := at4 (rangeAt_below hF.below hsrc0 hbb)
     obtain ⟨v0, v1, v2, v3, d0, d1, d2, d3, f0, f1, f2, f3⟩ := there4 hF.there hlt
     rw [Nat.zero_add] at d0 d1 d2 d3 f0 f1 f2 f3
     have hs1 : w.heap.size < wr.heap.size := hF.size
     have hne : b < wr.heap.size := by omega
     have HT : ∀ o, Fill w.heap.size w ((put4 wr w.heap.size (k * 4) x).alloc o) L.length (L.take (k + 1)) := fun o => by
       rw [take_snoc hx]
       exact (hF.step x k (by rw [List.length_take]; omega) hlt).alloc o
     clear hsrc0 hx hL hF
     obtain rfl := Option.some.inj hA
     go_wp2
     exact ⟨⟨k + 1, by omega, by go_num, HT _⟩, by simp [intOf]; omega⟩
   · have e : k = L.length := by omega
     rw [e, List.take_length] at hF
     have HF : Hid (Fill w.heap.size w wr L.length L) := hF
     subst e
     clear hF hL
     go_wp2
     go_ret
     exact ⟨rfl, HF.out⟩

theorem toWord_nil (w : World) : Calls Try.prog 9 #[.slice none 0 0] w fun e w' => e = .returned (.slice none 0 0) ∧ w' = w := by
  have hnil := fun (w : World) => Lib.run_eql_slice_nil (P := Try.prog) w 22 33 none 0 0 0 0 Try.underlying22
  go_enter Try.func9, Try.ntmps9
  go_wp2
  go_ret
  exact ⟨rfl, rfl⟩

/-- toWord: a fresh word, letter for letter. -/
theorem toWord_any (a : Option Addr) (L : List Lt) (cap : Nat) (w : World) (hn : L.length ≤ 1048576) (hL : RdAt w a L) (hc : a = none → cap = 0) :
    Calls Try.prog 9 #[.slice a L.length cap] w fun e w' =>
      ∃ a' c', e = .returned (.slice a' L.length c') ∧ Below w.heap.size w w' ∧ WordIn w' w.heap.size w'.heap.size a' c' L := by
  rcases a with _ | A
  · rw [hc rfl]
    obtain rfl : L = [] := by
      rcases hL with rfl | ⟨b, off, h, _⟩
      · rfl
      · cases h
    refine (toWord_nil w).mono ?_
    rintro e w' ⟨rfl, rfl⟩
    exact ⟨none, 0, rfl, Below.refl _ _, Or.inl ⟨rfl, rfl, rfl⟩⟩
  · refine (toWord_some A cap L w hn hL).mono ?_
    rintro e w' ⟨rfl, hF⟩
    exact ⟨_, _, rfl, hF.below, hF.wordIn rfl hn⟩

set_option maxHeartbeats 800000 in
theorem join_core (A1 A2 : Option Addr) (c1 c2 : Nat) (L1 L2 : List Lt) (w : World) (hn1 : L1.length ≤ 262144) (hn2 : L2.length ≤ 262144) (h1 : RdAt w A1 L1) (h2 : RdAt w A2 L2) :
    Calls Try.prog 10 #[.slice A1 L1.length c1, .slice A2 L2.length c2] w fun e w' =>
      e = .returned (.slice (some ⟨w.heap.size, 0, none⟩) (L1.length + L2.length) (L1.length + L2.length)) ∧ Fill w.heap.size w w' (L1.length + L2.length) (L1 ++ L2) := by
  have hmk := run_make_letters .i64 .i64 (L1.length + L2.length) (by omega)
  simp only [Int.natCast_add] at hmk
  go_enter Try.func10, Try.ntmps10
  go_wp2
  go_loopw [6] (fun i wr => ∃ k : Nat, k ≤ L1.length ∧ i = .int .i64 k ∧ Fill w.heap.size w wr (L1.length + L2.length) (L1.take k)) (fun i _ => L1.length - (intOf i).toNat)
  case atStart => exact ⟨0, by omega, rfl, fill_start _ _⟩
  case round =>
   obtain ⟨k, hk, rfl, hF⟩ := hrel
   by_cases hlt : k < L1.length
   · obtain ⟨x, hx⟩ : ∃ x, L1[k]? = some x := ⟨L1[k], List.getElem?_eq_getElem hlt⟩
     obtain ⟨b, off, hA, hbb, hr⟩ := h1.at hx
     obtain ⟨s0, s1, s2, s3⟩ := at4 (rangeAt_below hF.below hr hbb)
     obtain ⟨v0, v1, v2, v3, d0, d1, d2, d3, f0, f1, f2, f3⟩ := there4 hF.there (show k < L1.length + L2.length by omega)
     rw [Nat.zero_add] at d0 d1 d2 d3 f0 f1 f2 f3
     have hs1 : w.heap.size < wr.heap.size := hF.size
     have hne : b < wr.heap.size := by omega
     have HT : Fill w.heap.size w (put4 wr w.heap.size (k * 4) x) (L1.length + L2.length) (L1.take (k + 1)) := by
       rw [take_snoc hx]
       exact hF.step x k (by rw [List.length_take]; omega) (by omega)
     have HT' : Hid (Fill w.heap.size w (put4 wr w.heap.size (k * 4) x) (L1.length + L2.length) (L1.take (k + 1))) := HT
     clear HT hr hx hF h1 h2
     subst hA
     go_wp2
     exact ⟨⟨k + 1, by omega, by go_num, HT'.out⟩, by simp [intOf]; omega⟩
   · have e : k = L1.length := by omega
     rw [e, List.take_length] at hF
     subst e
     have HF : Hid (Fill w.heap.size w wr (L1.length + L2.length) L1) := hF
     clear hF h1
     go_wp2
     go_loopw [7] (fun i wr => ∃ k : Nat, k ≤ L2.length ∧ i = .int .i64 k ∧ Fill w.heap.size w wr (L1.length + L2.length) (L1 ++ L2.take k)) (fun i _ => L2.length - (intOf i).toNat)
     case atStart => exact ⟨0, by omega, rfl, by simpa using HF.out⟩
     case round =>
      obtain ⟨k, hk2, rfl, hF⟩ := hrel
      by_cases hlt2 : k < L2.length
      · obtain ⟨x, hx⟩ : ∃ x, L2[k]? = some x := ⟨L2[k], List.getElem?_eq_getElem hlt2⟩
        obtain ⟨b, off, hA, hbb, hr⟩ := h2.at hx
        obtain ⟨s0, s1, s2, s3⟩ := at4 (rangeAt_below hF.below hr hbb)
        obtain ⟨v0, v1, v2, v3, d0, d1, d2, d3, f0, f1, f2, f3⟩ := there4 hF.there (show L1.length + k < L1.length + L2.length by omega)
        rw [Nat.zero_add] at d0 d1 d2 d3 f0 f1 f2 f3
        have hs1 : w.heap.size < wr.heap.size := hF.size
        have hne : b < wr.heap.size := by omega
        have HT : Fill w.heap.size w (put4 wr w.heap.size ((L1.length + k) * 4) x) (L1.length + L2.length) (L1 ++ L2.take (k + 1)) := by
          rw [take_snoc hx, ← List.append_assoc]
          exact hF.step x (L1.length + k) (by rw [List.length_append, List.length_take]; omega) (by omega)
        have HT' : Hid (Fill w.heap.size w (put4 wr w.heap.size ((L1.length + k) * 4) x) (L1.length + L2.length) (L1 ++ L2.take (k + 1))) := HT
        clear HT hr hx hF h2
        subst hA
        go_wp2
        exact ⟨⟨k + 1, by omega, by go_num, HT'.out⟩, by simp [intOf]; omega⟩
      · have e : k = L2.length := by omega
        rw [e, List.take_length] at hF
        subst e
        have HF2 : Hid (Fill w.heap.size w wr (L1.length + L2.length) (L1 ++ L2)) := hF
        clear hF h2
        go_wp2
        go_ret
        exact ⟨rfl, HF2.out⟩

/-- joinWords: a fresh word: the one, then the other. -/
theorem join_any (A1 A2 : Option Addr) (c1 c2 : Nat) (L1 L2 : List Lt) (w : World) (hn1 : L1.length ≤ 262144) (hn2 : L2.length ≤ 262144) (h1 : RdAt w A1 L1) (h2 : RdAt w A2 L2) :
    Calls Try.prog 10 #[.slice A1 L1.length c1, .slice A2 L2.length c2] w fun e w' =>
      ∃ a' c', e = .returned (.slice a' (L1 ++ L2).length c') ∧ Below w.heap.size w w' ∧ WordIn w' w.heap.size w'.heap.size a' c' (L1 ++ L2) := by
  refine (join_core A1 A2 c1 c2 L1 L2 w hn1 hn2 h1 h2).mono ?_
  rintro e w' ⟨rfl, hF⟩
  rw [← List.length_append] at hF ⊢
  exact ⟨_, _, rfl, hF.below, hF.wordIn rfl (by rw [List.length_append]; omega)⟩

set_option maxHeartbeats 800000 in
/-- sameWord at two places that hold one and the same word: true. -/
theorem same_any (A1 A2 : Option Addr) (c1 c2 : Nat) (L : List Lt) (w : World) (hn : L.length ≤ 1048576) (h1 : RdAt w A1 L) (h2 : RdAt w A2 L) :
    Calls Try.prog 11 #[.slice A1 L.length c1, .slice A2 L.length c2] w fun e w' => e = .returned (.bool true) ∧ Below w.heap.size w w' := by
  go_enter Try.func11, Try.ntmps11
  go_wp2
  go_loopw [5] (fun i wr => ∃ k : Nat, k ≤ L.length ∧ i = .int .i64 k ∧ Below w.heap.size w wr) (fun i _ => L.length - (intOf i).toNat)
  case atStart => exact ⟨0, by omega, rfl, Below.refl _ _⟩
  case round =>
   obtain ⟨k, hk, rfl, hB⟩ := hrel
   have hsz : w.heap.size ≤ wr.heap.size := hB.size
   by_cases hlt : k < L.length
   · obtain ⟨x, hx⟩ : ∃ x, L[k]? = some x := ⟨L[k], List.getElem?_eq_getElem hlt⟩
     obtain ⟨b, off, hA, hbb, hr⟩ := h1.at hx
     obtain ⟨b2, off2, hA2, hbb2, hr2⟩ := h2.at hx
     obtain ⟨s0, s1, s2, s3⟩ := at4 (rangeAt_below hB hr hbb)
     obtain ⟨t0, t1, t2, t3⟩ := at4 (rangeAt_below hB hr2 hbb2)
     have hne : b < wr.heap.size := by omega
     have hne2 : b2 < wr.heap.size := by omega
     have HB : Hid (∀ o1 o2, Below w.heap.size w ((wr.alloc o1).alloc o2)) := fun o1 o2 => (hB.alloc hsz o1).alloc (by simp; omega) o2
     clear hr hr2 hx hB h1 h2
     subst hA hA2
     go_wp2
     exact ⟨⟨k + 1, by omega, by go_num, HB.out _ _⟩, by simp [intOf]; omega⟩
   · clear h1 h2
     go_wp2
     go_ret
     exact ⟨rfl, hB⟩

/-- dropFirst at a word of one letter or more. -/
theorem dropFirst_any (lo hi : Nat) (a : Option Addr) (c : Nat) (x : Lt) (L : List Lt) (w : World) (h : WordIn w lo hi a c (x :: L)) :
    Calls Try.prog 16 #[.slice a (L.length + 1) c] w fun e w' => ∃ a' c', e = .returned (.slice a' L.length c') ∧ w' = w ∧ WordIn w lo hi a' c' L := by
  rcases h with ⟨_, _, h⟩ | ⟨b, off, rfl, h1, h2, h3, h4, h5, h6⟩
  · simp at h
  simp only [List.length_cons] at h3 h5
  obtain ⟨a', ha, hw⟩ : ∃ a' : Option Addr, (if c = 1 then some (⟨b, off, none⟩ : Addr) else some ⟨b, off + 4, none⟩) = a' ∧ WordIn w lo hi a' (c - 1) L := by
    by_cases hc : c = 1
    · have hl : L = [] := List.length_eq_zero_iff.1 (by omega)
      subst hl hc
      exact ⟨_, rfl, Or.inr ⟨b, off, rfl, h1, h2, by simp, by omega, fun j hj => by simp at hj, fun i x hx => by simp at hx⟩⟩
    · refine ⟨_, rfl, ?_⟩
      rw [if_neg hc]
      refine Or.inr ⟨b, off + 4, rfl, h1, h2, by omega, by omega, there_part h5 (by omega) (by omega), fun i y hy => ?_⟩
      have := h6 (i + 1) y (by simpa using hy)
      rwa [show off + (i + 1) * 4 = off + 4 + i * 4 by omega] at this
  clear h1 h2 h5 h6
  go_enter Try.func16, Try.ntmps16
  go_wp2
  go_ret
  exact ⟨a', _, rfl, rfl, hw⟩

theorem zzdropFirst_any (lo hi : Nat) (a : Option Addr) (c : Nat) (x : Lt) (L : List Lt) (w : World) (h : WordIn w lo hi a c (x :: L)) :
    Calls Try.prog 8 #[.slice a (L.length + 1) c] w fun e w' => ∃ a' c', e = .returned (.slice a' L.length c') ∧ w' = w ∧ WordIn w lo hi a' c' L := by
  have hc := dropFirst_any lo hi a c x L w h
  clear h
  go_enter Try.func8, Try.ntmps8
  go_wp2_with (go_at_call 16; refine hc.mono ?_; rintro e w' ⟨a', c', rfl, rfl, hw⟩)
  go_ret
  exact ⟨a', c', rfl, rfl, hw⟩
end Go.Proofs.Qxb6615174a
