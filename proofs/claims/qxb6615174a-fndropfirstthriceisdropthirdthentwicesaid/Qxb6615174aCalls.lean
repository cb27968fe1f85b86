/-
  THE CONTRACTS WITH THE LENGTHS AS PLAIN LETTERS, so that they fit whatever stands at a call; the bounds on total length.
-/
import Derived.Test.Qxb6615174aDelete
namespace Go.Proofs.Qxb6615174a
open Go.RowKit

theorem toWord_n (L : List Lt) (a : Option Addr) (n cap : Nat) (w : World) (hl : L.length = n) (hn : n ≤ 1048576) (hL : RdAt w a L) (hc : a = none → cap = 0) :
    Calls Try.prog 9 #[.slice a n cap] w fun e w' => ∃ a' c', e = .returned (.slice a' n c') ∧ Below w.heap.size w w' ∧ WordIn w' w.heap.size w'.heap.size a' c' L := by
  subst hl; exact toWord_any a L cap w hn hL hc

theorem join_n (L1 L2 : List Lt) (A1 A2 : Option Addr) (n1 n2 m c1 c2 : Nat) (w : World) (hl1 : L1.length = n1) (hl2 : L2.length = n2) (hm : n1 + n2 = m) (hn1 : n1 ≤ 262144) (hn2 : n2 ≤ 262144) (h1 : RdAt w A1 L1) (h2 : RdAt w A2 L2) :
    Calls Try.prog 10 #[.slice A1 n1 c1, .slice A2 n2 c2] w fun e w' => ∃ a' c', e = .returned (.slice a' m c') ∧ Below w.heap.size w w' ∧ WordIn w' w.heap.size w'.heap.size a' c' (L1 ++ L2) := by
  subst hl1 hl2 hm
  have := join_any A1 A2 c1 c2 L1 L2 w hn1 hn2 h1 h2
  rwa [List.length_append] at this

theorem same_n (L : List Lt) (A1 A2 : Option Addr) (n1 n2 c1 c2 : Nat) (w : World) (hl1 : L.length = n1) (hl2 : L.length = n2) (hn : n1 ≤ 1048576) (h1 : RdAt w A1 L) (h2 : RdAt w A2 L) :
    Calls Try.prog 11 #[.slice A1 n1 c1, .slice A2 n2 c2] w fun e w' => e = .returned (.bool true) ∧ Below w.heap.size w w' := by
  subst hl1 hl2; exact same_any A1 A2 c1 c2 L w hn h1 h2

theorem dropFirst_n (lo hi : Nat) (x : Lt) (L : List Lt) (a : Option Addr) (n m c : Nat) (w : World) (hn : L.length + 1 = n) (hm : L.length = m) (h : WordIn w lo hi a c (x :: L)) :
    Calls Try.prog 8 #[.slice a n c] w fun e w' => ∃ a' c', e = .returned (.slice a' m c') ∧ w = w' ∧ WordIn w lo hi a' c' L := by
  subst hn hm
  exact (zzdropFirst_any lo hi a c x L w h).mono fun e w' ⟨a', c', h1, h2, h3⟩ => ⟨a', c', h1, h2.symm, h3⟩

theorem dropThird_n (lo hi : Nat) (x0 x1 x2 : Lt) (N : List Lt) (a : Option Addr) (n m c : Nat) (w : World) (hn : N.length + 3 = n) (hm : 2 + N.length = m) (h : WordIn w lo hi a c (x0 :: x1 :: x2 :: N)) :
    Calls Try.prog 13 #[.slice a n c] w fun e w' => e = .returned (.slice a m c) ∧ Below lo w w' ∧ w'.heap.size = w.heap.size ∧ WordIn w' lo hi a c (x0 :: x1 :: N) := by
  subst hn hm; exact zzdropThird_any lo hi a c x0 x1 x2 N w h

theorem rd_cut {w : World} {b off : Nat} {L : List Lt} (h : Wd w b off L) (k : Nat) : RdAt w (some ⟨b, off, none⟩) (L.take k) :=
  Or.inr ⟨b, off, rfl, fun i x hx => h i x (by
    rw [List.getElem?_take] at hx
    split at hx
    · exact hx
    · cases hx)⟩

theorem rd_rest {w : World} {b off : Nat} {L : List Lt} (h : Wd w b off L) (k cap : Nat) (hk : L.length ≤ cap) : RdAt w (if cap = k then some ⟨b, off, none⟩ else some ⟨b, off + k * 4, none⟩) (L.drop k) := by
  by_cases hc : cap = k
  · exact Or.inl (List.drop_of_length_le (by omega))
  · rw [if_neg hc]
    refine Or.inr ⟨b, off + k * 4, rfl, fun i x hx => ?_⟩
    rw [List.getElem?_drop] at hx
    have := h (k + i) x hx
    rwa [show off + (k + i) * 4 = off + k * 4 + i * 4 by omega] at this

theorem bytes7_yes (a : Option Addr) (n cap : Nat) (k : Int) (w : World) (hn : n ≤ 1048576) : Calls Try.prog 7 #[.slice a n cap, .int .i64 k] w fun e w' => e = .returned (.bool true) ∧ w = w' := by
  go_enter Try.func7, Try.ntmps7
  go_wp2
  go_ret
  exact ⟨rfl, rfl⟩
theorem bytes7_no (a : Option Addr) (n cap : Nat) (k : Int) (w : World) (hn : 1048576 < n) (hm : n ≤ 9223372036854775807) : Calls Try.prog 7 #[.slice a n cap, .int .i64 k] w fun e w' => e = .returned (.bool false) ∧ w = w' := by
  go_enter Try.func7, Try.ntmps7
  go_wp2
  go_ret
  exact ⟨rfl, rfl⟩
theorem bytes12_yes (a : Option Addr) (n cap : Nat) (w : World) (hn : n ≤ 1048576) : Calls Try.prog 12 #[.slice a n cap] w fun e w' => e = .returned (.bool true) ∧ w = w' := by
  go_enter Try.func12, Try.ntmps12
  go_wp2
  go_ret
  exact ⟨rfl, rfl⟩
theorem bytes12_no (a : Option Addr) (n cap : Nat) (w : World) (hn : 1048576 < n) (hm : n ≤ 9223372036854775807) : Calls Try.prog 12 #[.slice a n cap] w fun e w' => e = .returned (.bool false) ∧ w = w' := by
  go_enter Try.func12, Try.ntmps12
  go_wp2
  go_ret
  exact ⟨rfl, rfl⟩
theorem bytes14_yes (a : Option Addr) (n cap : Nat) (w : World) (hn : n ≤ 1048576) : Calls Try.prog 14 #[.slice a n cap] w fun e w' => e = .returned (.bool true) ∧ w = w' := by
  go_enter Try.func14, Try.ntmps14
  go_wp2
  go_ret
  exact ⟨rfl, rfl⟩
theorem bytes14_no (a : Option Addr) (n cap : Nat) (w : World) (hn : 1048576 < n) (hm : n ≤ 9223372036854775807) : Calls Try.prog 14 #[.slice a n cap] w fun e w' => e = .returned (.bool false) ∧ w = w' := by
  go_enter Try.func14, Try.ntmps14
  go_wp2
  go_ret
  exact ⟨rfl, rfl⟩
theorem bytes15_any (a a2 : Option Addr) (n cap n2 cap2 : Nat) (w : World) (hm : n ≤ 9223372036854775807) (hm2 : n2 ≤ 9223372036854775807) : Calls Try.prog 15 #[.slice a n cap, .slice a2 n2 cap2] w fun e w' => (∃ r, e = .returned (.bool r) ∧ (r = true → n ≤ 1048576 ∧ n2 ≤ 1048576)) ∧ w = w' := by
  by_cases h1 : n ≤ 1048576
  · by_cases h2 : n2 ≤ 1048576
    · by_cases h3 : n + n2 ≤ 1048576
      · go_enter Try.func15, Try.ntmps15
        go_wp2
        go_ret
        exact ⟨⟨true, rfl, fun _ => ⟨h1, h2⟩⟩, rfl⟩
      · go_enter Try.func15, Try.ntmps15
        go_wp2
        go_ret
        exact ⟨⟨false, rfl, fun h => by cases h⟩, rfl⟩
    · go_enter Try.func15, Try.ntmps15
      go_wp2
      go_ret
      exact ⟨⟨false, rfl, fun h => by cases h⟩, rfl⟩
  · go_enter Try.func15, Try.ntmps15
    go_wp2
    go_ret
    exact ⟨⟨false, rfl, fun h => by cases h⟩, rfl⟩
end Go.Proofs.Qxb6615174a
