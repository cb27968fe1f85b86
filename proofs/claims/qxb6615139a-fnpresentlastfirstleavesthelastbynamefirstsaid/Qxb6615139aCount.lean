/-
  presentCount, scenesBytes, zzBytes.
-/
import Derived.Test.Qxb6615139aData
namespace Go.Proofs.Qxb6615139a
open Go.RowKit

theorem ie' {x y : Int} (h : x = y) : Value.int .i64 x = .int .i64 y := by rw [h]

set_option maxHeartbeats 400000 in
theorem presentCount_any (a : Option Addr) (cap : Nat) (S : List Sc) (hd : Nat → Option Addr × Nat) (w : World) (h : ScAt w a S hd) (hS : S.length ≤ 1048576) (ht : tot S ≤ 1048576) :
    Calls Try.prog 16 #[.slice a S.length cap] w fun e w' => e = .returned (.int .i64 (tot S : Int)) ∧ w = w' := by
  have H : Hid (ScAt w a S hd) := h
  clear h
  go_enter Try.func16, Try.ntmps16
  go_wp2
  go_loop [3, 4] (fun vt vi => ∃ k : Nat, k ≤ S.length ∧ vi = .int .i64 k ∧ vt = .int .i64 (tot (S.take k) : Int)) (fun _ vi => S.length - (intOf vi).toNat)
  case atStart => exact ⟨0, by omega, rfl, by simp [tot]⟩
  case round =>
    obtain ⟨k, hk, rfl, rfl⟩ := hrel
    have hle := tot_take_le S k
    by_cases hlt : k < S.length
    · obtain ⟨s, hs⟩ : ∃ s, S[k]? = some s := ⟨S[k], List.getElem?_eq_getElem hlt⟩
      obtain ⟨⟨b, off, rfl, hbw, hr⟩, _⟩ := H.out k s hs
      obtain ⟨c0, c1, c2⟩ := at3s hr
      have e := tot_take hs
      have hle2 := tot_take_le S (k + 1)
      have HE : Hid (tot (S.take (k + 1)) = tot (S.take k) + s.pres.length) := e
      have hb2 : tot (S.take k) + s.pres.length ≤ 1048576 := by omega
      clear hr hs e
      generalize tot (S.take k) = t at *
      go_wp2
      go_round
      case rel => exact ⟨k + 1, by omega, ie' (by omega), by rw [HE.out]; exact ie' (by omega)⟩
      case measure => simp [intOf]; omega
    · have HE : Hid (S.take k = S) := List.take_of_length_le (by omega)
      go_wp2
      go_ret
      exact ⟨by rw [HE.out]; rfl, rfl⟩

set_option maxHeartbeats 2000000 in
set_option maxRecDepth 100000 in
/-- scenesBytes(scenes, 0): at most the limit only where the scenes are few -/
theorem scenesBytes_any (a : Option Addr) (cap : Nat) (S : List Sc) (hd : Nat → Option Addr × Nat) (w : World) (h : ScAt w a S hd) (hm : S.length ≤ 9223372036854775807) (hl : Fits S) :
    Calls Try.prog 14 #[.slice a S.length cap, .int .i64 0] w fun e w' => ∃ v : Int, e = .returned (.int .i64 v) ∧ (v ≤ 1048576 → 56 * S.length + 48 * tot S ≤ 1048576) ∧ Below w.heap.size w w' := by
  have H : Hid (ScAt w a S hd) := h
  have HL : Hid (Fits S) := hl
  clear h hl
  by_cases hS : 1048576 < S.length
  · go_enter Try.func14, Try.ntmps14
    go_wp2
    go_ret
    exact ⟨1048577, rfl, fun h => by omega, Below.refl _ _⟩
  by_cases hS2 : 1048576 < S.length * 56
  · go_enter Try.func14, Try.ntmps14
    go_wp2
    go_ret
    exact ⟨_, rfl, fun h => by omega, Below.refl _ _⟩
  go_enter Try.func14, Try.ntmps14
  go_wp2
  go_loopw [1, 5] (fun vz vi wr => ∃ (k z : Nat), k ≤ S.length ∧ vi = .int .i64 k ∧ vz = .int .i64 z ∧ z ≤ 1048576 ∧ 56 * S.length + 48 * tot (S.take k) ≤ z ∧ Below w.heap.size w wr) (fun _ vi _ => S.length - (intOf vi).toNat)
  case atStart => exact ⟨0, S.length * 56, by omega, rfl, ie' (by omega), by omega, by simp [tot]; omega, Below.refl _ _⟩
  case round =>
    obtain ⟨k, z, hk, rfl, rfl, hz, hzt, hB⟩ := hrel
    have HB : Hid (Below w.heap.size w wr) := hB
    have HZ : Hid (56 * S.length + 48 * tot (S.take k) ≤ z) := hzt
    clear hB hzt
    by_cases hlt : k < S.length
    · obtain ⟨s, hs⟩ : ∃ s, S[k]? = some s := ⟨S[k], List.getElem?_eq_getElem hlt⟩
      obtain ⟨⟨b, off, rfl, hbw, hr⟩, hR⟩ := H.out k s hs
      obtain ⟨c0, c1, c2⟩ := at3s (rangeAt_below HB.out hr hbw)
      obtain ⟨l0, l1, l2, l3⟩ := HL.out k s hs
      have HR : Hid (RefsAt w (hd k).1 s.pres) := hR
      have HLR : Hid (∀ (j : Nat) (r : Rf), s.pres[j]? = some r → r.id.size ≤ 9223372036854775807 ∧ r.ty.size ≤ 9223372036854775807 ∧ r.name.size ≤ 9223372036854775807) := l3
      have HE : Hid (tot (S.take (k + 1)) = tot (S.take k) + s.pres.length) := tot_take hs
      have HS : Hid (S[k]? = some s) := hs
      clear hr hs hR l3
      by_cases g0 : 1048576 < s.locId.size
      · go_wp2
        go_ret
        exact ⟨1048577, rfl, fun h => by omega, HB.out⟩
      by_cases g1 : 1048576 < s.locName.size
      · go_wp2
        go_ret
        exact ⟨1048577, rfl, fun h => by omega, HB.out⟩
      by_cases g2 : 1048576 < s.pres.length
      · go_wp2
        go_ret
        exact ⟨1048577, rfl, fun h => by omega, HB.out⟩
      by_cases g3 : 1048576 < z + (s.locId.size + s.locName.size + s.pres.length * 48)
      · go_wp2_with fail
        go_quiet (fail)
        go_wp2
        go_ret
        exact ⟨_, rfl, fun h => by omega, below_drewN HB.out nq⟩
      obtain ⟨z1, hz1, HZ1⟩ : ∃ z1 : Nat, (z : Int) + ((s.locId.size : Int) + s.locName.size + s.pres.length * 48) = z1 ∧ Hid (56 * S.length + 48 * tot (S.take (k + 1)) ≤ z1 ∧ z1 ≤ 1048576) :=
        ⟨z + (s.locId.size + s.locName.size + s.pres.length * 48), by omega, by rw [HE.out]; have := HZ.out; exact ⟨by omega, by omega⟩⟩
      have hz1' : z1 ≤ 1048576 := HZ1.out.2
      go_wp2_with fail
      go_quiet (fail)
      have HBq : Hid (Below w.heap.size w (wr.drewN nq)) := below_drewN HB.out nq
      clear HB HZ
      generalize wr.drewN nq = wq at *
      go_wp2
      go_loopw [1, 6] (fun vz vj wr => ∃ (j y : Nat), j ≤ s.pres.length ∧ vj = .int .i64 j ∧ vz = .int .i64 y ∧ y ≤ 1048576 ∧ z1 ≤ y ∧ Below w.heap.size w wr) (fun _ vj _ => s.pres.length - (intOf vj).toNat)
      case atStart => exact ⟨0, z1, by omega, rfl, rfl, hz1', Nat.le_refl _, HBq.out⟩
      case round =>
        obtain ⟨j, y, hj, rfl, rfl, hy, hzy, hB2⟩ := hrel
        have HB2 : Hid (Below w.heap.size w wr) := hB2
        have hsz : w.heap.size ≤ wr.heap.size := hB2.size
        obtain ⟨⟨b', off', hb', hbw', hr'⟩, _⟩ := H.out k s HS.out
        obtain ⟨rfl, rfl⟩ : b' = b ∧ off' = off := by
          have := Option.some.inj hb'
          simp at this
          exact ⟨this.1.symm, this.2.symm⟩
        obtain ⟨c0, c1, c2⟩ := at3s (rangeAt_below HB2.out hr' hbw')
        clear hB2 hr' hb' c0 c1 hz1
        by_cases hlj : j < s.pres.length
        · obtain ⟨r, hrj⟩ : ∃ r, s.pres[j]? = some r := ⟨s.pres[j], List.getElem?_eq_getElem hlj⟩
          obtain ⟨b2, off2, hA, hbw2, hr2⟩ := HR.out j r hrj
          obtain ⟨d0, d1, d2⟩ := at3r (rangeAt_below HB2.out hr2 hbw2)
          obtain ⟨m0, m1, m2⟩ := HLR.out j r hrj
          have hne : b2 < wr.heap.size := by omega
          rw [hA] at c2
          clear hrj hr2 hA
          have HBA : Hid (∀ o, Below w.heap.size w (wr.alloc o)) := fun o => HB2.out.alloc hsz o
          by_cases q0 : 1048576 < r.id.size
          · go_wp2
            go_ret
            exact ⟨1048577, rfl, fun h => by omega, HBA.out _⟩
          by_cases q1 : 1048576 < r.ty.size
          · go_wp2
            go_ret
            exact ⟨1048577, rfl, fun h => by omega, HBA.out _⟩
          by_cases q2 : 1048576 < r.name.size
          · go_wp2
            go_ret
            exact ⟨1048577, rfl, fun h => by omega, HBA.out _⟩
          by_cases q3 : 1048576 < y + (r.id.size + r.ty.size + r.name.size)
          · go_wp2
            go_ret
            exact ⟨_, rfl, fun h => by omega, HBA.out _⟩
          go_wp2
          exact ⟨⟨j + 1, y + (r.id.size + r.ty.size + r.name.size), by omega, ie' (by omega), ie' (by omega), by omega, by omega, HBA.out _⟩, by simp [intOf]; omega⟩
        · go_wp2
          exact ⟨⟨k + 1, y, by omega, ie' (by omega), rfl, hy, by have := HZ1.out.1; omega, HB2.out⟩, by simp [intOf]; omega⟩
    · have HE : Hid (S.take k = S) := List.take_of_length_le (by omega)
      go_wp2
      go_ret
      exact ⟨(z : Int), rfl, fun h => by have := HZ.out; rw [HE.out] at this; omega, HB.out⟩
end Go.Proofs.Qxb6615139a
