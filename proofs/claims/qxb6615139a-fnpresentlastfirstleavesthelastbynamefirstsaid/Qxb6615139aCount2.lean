/-
  zzBytes: a bool, whatever it be.
-/
import Derived.Test.Qxb6615139aCount
namespace Go.Proofs.Qxb6615139a
open Go.RowKit

def IsB (e : Ending) : Prop := ∃ r, e = .returned (.bool r)
theorem isB (b : Bool) : IsB (.returned (.bool b)) := ⟨b, rfl⟩

set_option maxHeartbeats 2000000 in
set_option maxRecDepth 100000 in
theorem zzBytes_any (a : Option Addr) (cap : Nat) (n : Int) (S : List Sc) (hd : Nat → Option Addr × Nat) (w : World) (h : ScAt w a S hd) (hm : S.length ≤ 9223372036854775807) (hl : Fits S) :
    Calls Try.prog 18 #[.slice a S.length cap, .int .i64 n] w fun e w' => IsB e ∧ w = w' := by
  have H : Hid (ScAt w a S hd) := h
  have HL : Hid (Fits S) := hl
  clear h hl
  by_cases hS : 1048576 < S.length
  · go_enter Try.func18, Try.ntmps18
    go_wp2
    go_ret
    exact ⟨isB false, rfl⟩
  go_enter Try.func18, Try.ntmps18
  go_wp2
  go_loop [5, 6] (fun vz vi => ∃ (k z : Nat), k ≤ S.length ∧ vi = .int .i64 k ∧ vz = .int .i64 z ∧ z ≤ 1048576) (fun _ vi => S.length - (intOf vi).toNat)
  case atStart => exact ⟨0, S.length, by omega, rfl, ie' (by omega), by omega⟩
  case round =>
    obtain ⟨k, z, hk, rfl, rfl, hz⟩ := hrel
    by_cases hlt : k < S.length
    · obtain ⟨s, hs⟩ : ∃ s, S[k]? = some s := ⟨S[k], List.getElem?_eq_getElem hlt⟩
      obtain ⟨⟨b, off, rfl, hbw, hr⟩, hR⟩ := H.out k s hs
      obtain ⟨c0, c1, c2⟩ := at3s hr
      obtain ⟨l0, l1, l2, l3⟩ := HL.out k s hs
      have HR : Hid (RefsAt w (hd k).1 s.pres) := hR
      have HLR : Hid (∀ (j : Nat) (r : Rf), s.pres[j]? = some r → r.id.size ≤ 9223372036854775807 ∧ r.ty.size ≤ 9223372036854775807 ∧ r.name.size ≤ 9223372036854775807) := l3
      clear hr hs hR l3
      by_cases g0 : 1048576 < s.locId.size
      · go_wp2
        go_ret
        exact ⟨isB false, rfl⟩
      by_cases g1 : 1048576 < z + s.locId.size
      · go_wp2
        go_ret
        exact ⟨isB false, rfl⟩
      by_cases g2 : 1048576 < s.locName.size
      · go_wp2
        go_ret
        exact ⟨isB false, rfl⟩
      by_cases g3 : 1048576 < z + s.locId.size + s.locName.size
      · go_wp2
        go_ret
        exact ⟨isB false, rfl⟩
      by_cases g4 : 1048576 < s.pres.length
      · go_wp2
        go_ret
        exact ⟨isB false, rfl⟩
      by_cases g5 : 1048576 < z + s.locId.size + s.locName.size + s.pres.length
      · go_wp2
        go_ret
        exact ⟨isB false, rfl⟩
      obtain ⟨z1, hz1, hz1'⟩ : ∃ z1 : Nat, (z : Int) + s.locId.size + s.locName.size + s.pres.length = z1 ∧ z1 ≤ 1048576 := ⟨z + s.locId.size + s.locName.size + s.pres.length, by omega, by omega⟩
      go_wp2
      go_loop [5, 7] (fun vz vj => ∃ (j y : Nat), j ≤ s.pres.length ∧ vj = .int .i64 j ∧ vz = .int .i64 y ∧ y ≤ 1048576) (fun _ vj => s.pres.length - (intOf vj).toNat)
      case atStart => exact ⟨0, z1, by omega, rfl, rfl, hz1'⟩
      case round =>
        obtain ⟨j, y, hj, rfl, rfl, hy⟩ := hrel
        clear c0 c1 hz1
        by_cases hlj : j < s.pres.length
        · obtain ⟨r, hrj⟩ : ∃ r, s.pres[j]? = some r := ⟨s.pres[j], List.getElem?_eq_getElem hlj⟩
          obtain ⟨b2, off2, hA, hbw2, hr2⟩ := HR.out j r hrj
          obtain ⟨d0, d1, d2⟩ := at3r hr2
          obtain ⟨m0, m1, m2⟩ := HLR.out j r hrj
          rw [hA] at c2
          clear hrj hr2 hA
          by_cases q0 : 1048576 < r.id.size
          · go_wp2
            go_ret
            exact ⟨isB false, rfl⟩
          by_cases q1 : 1048576 < y + r.id.size
          · go_wp2
            go_ret
            exact ⟨isB false, rfl⟩
          by_cases q2 : 1048576 < r.ty.size
          · go_wp2
            go_ret
            exact ⟨isB false, rfl⟩
          by_cases q3 : 1048576 < y + r.id.size + r.ty.size
          · go_wp2
            go_ret
            exact ⟨isB false, rfl⟩
          by_cases q4 : 1048576 < r.name.size
          · go_wp2
            go_ret
            exact ⟨isB false, rfl⟩
          by_cases q5 : 1048576 < y + r.id.size + r.ty.size + r.name.size
          · go_wp2
            go_ret
            exact ⟨isB false, rfl⟩
          go_wp2
          go_round
          case rel => exact ⟨j + 1, y + r.id.size + r.ty.size + r.name.size, by omega, ie' (by omega), ie' (by omega), by omega⟩
          case measure => simp [intOf]; omega
        · go_wp2
          go_round
          case rel => exact ⟨k + 1, y, by omega, ie' (by omega), rfl, hy⟩
          case measure => simp [intOf]; omega
    · go_wp2
      go_ret
      exact ⟨isB true, rfl⟩
end Go.Proofs.Qxb6615139a
