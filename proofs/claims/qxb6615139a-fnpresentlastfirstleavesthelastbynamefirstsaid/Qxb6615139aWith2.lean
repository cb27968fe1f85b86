/-
  without[EntityRef].
-/
import Derived.Test.Qxb6615139aWithout
namespace Go.Proofs.Qxb6615139a
open Go.RowKit Go.Maps

/-- the references whose places are not in K -/
def keepK (K : List Nat) (R : List Rf) : List Rf := (R.zipIdx.filter fun p => !K.contains p.2).map fun p => p.1

theorem keepK_nil (R : List Rf) : keepK [] R = R := by
  unfold keepK
  rw [List.filter_eq_self.2 (by simp)]
  exact List.zipIdx_map_fst _ _

theorem keepK_take {K : List Nat} {R : List Rf} {k : Nat} {r : Rf} (h : R[k]? = some r) : keepK K (R.take (k + 1)) = keepK K (R.take k) ++ if K.contains k then [] else [r] := by
  have hk : k < R.length := (List.getElem?_eq_some_iff.1 h).1
  unfold keepK
  rw [List.take_add_one, h, List.zipIdx_append, List.filter_append, List.map_append, List.length_take, Nat.min_eq_left (by omega)]
  congr 1
  simp only [Option.toList_some, List.zipIdx_cons, List.zipIdx_nil, Nat.zero_add, List.filter_cons, List.filter_nil]
  cases K.contains k <;> simp

theorem rc_one (r : Rf) : ∀ v ∈ rc r, v.oneCell' = true := by
  intro v hv
  simp only [rc, List.mem_cons, List.not_mem_nil, or_false] at hv
  rcases hv with rfl | rfl | rfl <;> rfl

theorem flat3_get : ∀ (L : List Rf) (k : Nat) (p : Rf) (j : Nat) (u : Value), L[k]? = some p → (rc p)[j]? = some u → (L.flatMap rc)[k * 3 + j]? = some u
  | [], k, p, j, u, h, _ => by simp at h
  | q :: L, 0, p, j, u, h, hu => by
    obtain rfl : q = p := by simpa using h
    have hj : j < (rc q).length := (List.getElem?_eq_some_iff.1 hu).1
    rw [List.flatMap_cons, Nat.zero_mul, Nat.zero_add, List.getElem?_append_left hj]
    exact hu
  | q :: L, k + 1, p, j, u, h, hu => by
    have h' : L[k]? = some p := by simpa using h
    rw [List.flatMap_cons, List.getElem?_append_right (by rw [rc_length]; omega), rc_length, show (k + 1) * 3 + j - 3 = k * 3 + j by omega]
    exact flat3_get L k p j u h' hu

theorem refs_of_own {w : World} {base g cap : Nat} {L : List Rf} (h : w.ownsRow base 54 3 (.slice (some ⟨g, 0, none⟩) L.length cap) L.length (L.flatMap rc)) : RefsAt w (some ⟨g, 0, none⟩) L := fun j r hr =>
  ⟨g, 0, rfl, (h.lt g rfl).2, fun t u hu => by
    have ht : t < 3 := (List.getElem?_eq_some_iff.1 hu).1
    have hj : j < L.length := (List.getElem?_eq_some_iff.1 hr).1
    rw [Nat.zero_add, h.cellAt _ (by omega)]
    exact flat3_get L j r t u hr hu⟩

theorem i54z : (Try.prog.info? 54).map (fun i => (i.zero, i.size, i.bytes)) = some (some (.agg #[.string ⟨#[]⟩, .string ⟨#[]⟩, .string ⟨#[]⟩]), 3, 48) := by kernel_rfl

/-- make([]T, 0, c) -/
theorem make0_run (c : Nat) (hc : c ≤ 1048576) : ∃ ob, (∀ w, (Instr.makeSlice 63 (.int .i64 0) (.int .i64 (c : Int))).run Try.prog w = .ok (.slice (some ⟨w.heap.size, 0, none⟩) 0 c) (w.alloc ob)) ∧ ∀ w : World, (w.alloc ob).ownsRow w.heap.size 54 3 (.slice (some ⟨w.heap.size, 0, none⟩) 0 c) 0 [] := by
  obtain ⟨i, hi, hzz⟩ := Option.map_eq_some_iff.1 i54z
  simp only [Prod.mk.injEq] at hzz
  refine ⟨.cells (madeCells (Value.cells (.agg #[.string ⟨#[]⟩, .string ⟨#[]⟩, .string ⟨#[]⟩])) (c * i.size)) 54, fun w => ?_, fun w => ?_⟩
  · have hrun := run_make (P := Try.prog) w 63 54 i _ und63 hi hzz.1 .i64 .i64 0 c (by omega) (by omega) (by rw [hzz.2.2]; omega) (by omega)
    simp only [Int.toNat_natCast] at hrun
    exact hrun
  · exact World.ownsRow_made w _ c (Nat.le_refl _) (Nat.le_trans hc (by decide)) (by rw [size_madeCells, hzz.2.1])

theorem new_ref (w : World) (r : Rf) : ∀ t u, (rc r)[t]? = some u → (w.alloc (.cells #[.string r.id, .string r.ty, .string r.name] 54)).cell? ((⟨w.heap.size, 0, none⟩ : Addr).add t) = some u := by
  intro t u hu
  rw [Addr.add_mid, Nat.zero_add]
  match t, hu with
  | 0, hu => obtain rfl := Option.some.inj (show some (Value.string r.id) = some u from hu); go_simp
  | 1, hu => obtain rfl := Option.some.inj (show some (Value.string r.ty) = some u from hu); go_simp
  | 2, hu => obtain rfl := Option.some.inj (show some (Value.string r.name) = some u from hu); go_simp
  | _ + 3, hu => simp [rc] at hu

/-- kept = append(kept, item) -/
theorem kept_append {ops : Array Oper} {rest : List Oper} {o : Oper} {a : Act} {Q : Exit → Act → World → Prop} (hgd : o.guard = none) (ho : o.op = .call { callee := .builtin .append, args := #[.tmp 29, .tmp 31], argTypes := #[63, 63] })
    {base : Nat} {wr : World} {v : Value} {L : List Rf} {r : Rf} (h : wr.ownsRow base 54 3 v L.length (L.flatMap rc)) (hbase : base ≤ wr.heap.size) (hn : L.length + 1 ≤ 1048576) (hs : a.eval (.tmp 29) = v) (hx : a.eval (.tmp 31) = .slice (some ⟨wr.heap.size, 0, none⟩) 1 1)
    (hK : ∀ v' w', Below base wr w' → w'.ownsRow base 54 3 v' (L ++ [r]).length ((L ++ [r]).flatMap rc) → wpList Try.prog ops Q rest (a.put o.dst v') w') :
    wpList Try.prog ops Q (o :: rest) a (wr.alloc (.cells #[.string r.id, .string r.ty, .string r.name] 54)) := by
  obtain ⟨i, hi, hzz⟩ := Option.map_eq_some_iff.1 i54z
  simp only [Prod.mk.injEq] at hzz
  refine wpList_append_lies _ hgd _ _ 63 ho base 54 i _ 3 48 und63 hi hzz.1 hzz.2.1 hzz.2.2 rfl (by omega) v L.length (L.flatMap rc) hs (h.alloc _) ⟨wr.heap.size, 0, none⟩ 1 1 (rc r) hx rfl (new_ref wr r) (rc_one _) (by omega)
    (Nat.le_trans hn (by decide)) (by omega) (by simp; omega) _ rfl ?_
  intro g cap w' ho' hg _ _
  have hb0 : Below wr.heap.size wr (wr.alloc (.cells #[.string r.id, .string r.ty, .string r.name] 54)) := (Below.refl _ _).alloc (Nat.le_refl _) _
  refine hK _ w' ((hb0.mono hbase).trans ⟨hg.os, hg.tape, hg.output, hg.size, fun k hk => hg.block k (by simp; omega) (fun e => by have := (h.lt k e.symm).1; omega)⟩) ?_
  rw [List.length_append, List.flatMap_append]
  simp only [List.length_cons, List.length_nil, List.flatMap_cons, List.flatMap_nil, List.append_nil]
  exact ho'

/-- a map value and the set of its keys -/
def MapIs (w : World) (mv : Value) (K : List Nat) : Prop := (mv = .map none ∧ K = []) ∨ ∃ b n, mv = .map (some b) ∧ SetAt w b n K

set_option maxHeartbeats 1000000 in
set_option maxRecDepth 100000 in
theorem without_any (p : Option Addr) (c : Nat) (R : List Rf) (K : List Nat) (mv : Value) (w : World) (hR : RefsAt w p R) (hM : MapIs w mv K) (hK : K.length ≤ R.length) (hm : R.length ≤ 1048576) :
    Calls Try.prog 27 #[.slice p R.length c, mv] w fun e w' => ∃ p' c', e = .returned (.slice p' (keepK K R).length c') ∧ Below w.heap.size w w' ∧ RefsAt w' p' (keepK K R) ∧ (p' = p ∨ p' = none ∨ ∃ g, p' = some ⟨g, 0, none⟩ ∧ w.heap.size ≤ g) := by
  by_cases h0 : K = []
  · subst h0
    rw [keepK_nil]
    have HR : Hid (RefsAt w p R) := hR
    rcases hM with ⟨rfl, -⟩ | ⟨b, n, rfl, hs⟩
    · have hl := fun ty => Maps.len_nil (P := Try.prog) (w := w) und93 ty
      clear hR
      go_enter Try.func27, Try.ntmps27
      go_wp2
      go_ret
      exact ⟨p, c, rfl, Below.refl _ _, HR.out, .inl rfl⟩
    · have hl := fun ty => hs.len ty
      clear hR hs
      go_enter Try.func27, Try.ntmps27
      go_wp2
      go_ret
      exact ⟨p, c, rfl, Below.refl _ _, HR.out, .inl rfl⟩
  · rcases hM with ⟨-, e⟩ | ⟨b, n, rfl, hs⟩
    · exact absurd e h0
    have hpos : 0 < K.length := List.length_pos_iff.2 h0
    have hl := fun ty => hs.len ty
    have HR : Hid (RefsAt w p R) := hR
    have HS : Hid (SetAt w b n K) := hs
    obtain ⟨ob, hob, hown⟩ := make0_run (R.length - K.length) (by omega)
    have hsub : (R.length : Int) - K.length = ((R.length - K.length : Nat) : Int) := by omega
    have HO : Hid _ := hown
    have hz0 : ((K.length : Int) == 0) = false := by rw [beq_eq_false_iff_ne]; omega
    clear hR hs hown h0
    go_enter Try.func27, Try.ntmps27
    go_wp2
    go_loopw [5, 20] (fun vv vi wr => ∃ k : Nat, k ≤ R.length ∧ vi = .int .i64 k ∧ Below w.heap.size w wr ∧ wr.ownsRow w.heap.size 54 3 vv (keepK K (R.take k)).length ((keepK K (R.take k)).flatMap rc)) (fun _ vi _ => R.length - (intOf vi).toNat)
    case atStart => exact ⟨0, by omega, rfl, (Below.refl _ _).alloc (Nat.le_refl _) _, by simpa [keepK] using HO.out w⟩
    case round =>
      obtain ⟨k, hk, rfl, hB, hw⟩ := hrel
      have HB : Hid (Below w.heap.size w wr) := hB
      have HW : Hid (wr.ownsRow w.heap.size 54 3 u5 (keepK K (R.take k)).length ((keepK K (R.take k)).flatMap rc)) := hw
      have hsz := hB.size
      clear hB hw hob HO hl hsub
      by_cases hlt : k < R.length
      · obtain ⟨r, hr⟩ : ∃ r, R[k]? = some r := ⟨R[k], List.getElem?_eq_getElem hlt⟩
        obtain ⟨b2, off2, rfl, hbw2, hr2⟩ := HR.out k r hr
        obtain ⟨d0, d1, d2⟩ := at3r (rangeAt_below HB.out hr2 hbw2)
        have hne : b2 < wr.heap.size := by omega
        have HE : Hid _ := keepK_take (K := K) hr
        have HN : Hid ((keepK K (R.take k)).length + 1 ≤ 1048576) := by
          show (keepK K (R.take k)).length + 1 ≤ 1048576
          unfold keepK
          rw [List.length_map]
          have := List.length_filter_le (fun p : Rf × Nat => !K.contains p.2) (R.take k).zipIdx
          rw [List.length_zipIdx, List.length_take] at this
          omega
        have hlook : ∀ o, (Instr.lookup 93 (.map (some b)) (.int .i64 (k : Int)) false).run Try.prog (wr.alloc o) = .ok (.bool (K.contains k)) (wr.alloc o) := fun o =>
          ((HS.out.of_block (HB.out.block b HS.out.lt)).of_block (((Below.refl _ _).alloc (Nat.le_refl _) o).block b (Nat.lt_of_lt_of_le HS.out.lt hsz))).look (by omega)
        have HBA : Hid (∀ o, Below w.heap.size w (wr.alloc o)) := fun o => HB.out.alloc hsz o
        clear hr hr2
        rcases hc : K.contains k with _ | _
        · rw [hc] at hlook
          have HE2 : Hid (keepK K (R.take (k + 1)) = keepK K (R.take k) ++ [r]) := by rw [hc] at HE; exact HE
          clear hc HE
          go_wp2_with (refine kept_append (r := r) rfl rfl (HW.out.alloc _) (by simp; omega) HN.out rfl (by go_simp) ?_; intro v3 w3 hb3 ho3; have HB3 : Hid _ := hb3; have HO3 : Hid _ := ho3; clear hb3 ho3)
          go_round
          case rel => exact ⟨k + 1, by omega, ie' (by omega), (HBA.out _).trans HB3.out, by rw [HE2.out]; exact HO3.out⟩
          case measure => simp [intOf]; omega
        · rw [hc] at hlook
          have HE2 : Hid (keepK K (R.take (k + 1)) = keepK K (R.take k)) := by
            rw [hc] at HE
            have := HE.out
            rw [if_pos rfl, List.append_nil] at this
            exact this
          clear hc HE
          go_wp2
          go_round
          case rel => exact ⟨k + 1, by omega, ie' (by omega), HBA.out _, by rw [HE2.out]; exact HW.out.alloc _⟩
          case measure => simp [intOf]; omega
      · have HE : Hid (R.take k = R) := List.take_of_length_le (by omega)
        go_wp2
        go_ret
        have hw := HW.out
        rw [HE.out] at hw
        rcases hw.2 with ⟨rfl, hn⟩ | ⟨g, cap, cur, rfl, hg, -⟩
        · have e : keepK K R = [] := List.eq_nil_of_length_eq_zero hn
          exact ⟨none, 0, by rw [e]; rfl, HB.out, by rw [e]; exact fun j r hr => by simp at hr, .inr (.inl rfl)⟩
        · exact ⟨_, cap, rfl, HB.out, refs_of_own hw, .inr (.inr ⟨g, rfl, hg⟩)⟩
end Go.Proofs.Qxb6615139a
