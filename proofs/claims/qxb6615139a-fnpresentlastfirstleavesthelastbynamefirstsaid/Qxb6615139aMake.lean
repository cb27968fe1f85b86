/-
  make at any length, a store into the middle of a row: the world behind each by what holds of it.
-/
import Derived.Test.Qxb6615139aData
import Derived.Test.Qxb6615139aSortMem
namespace Go.Proofs.Qxb6615139a
open Go.RowKit

theorem bcell' {B : Nat} {W w1 : World} (hb : Below B W w1) : (∀ b o, b < B → w1.cell? ⟨b, o, none⟩ = W.cell? ⟨b, o, none⟩) ∧ (∀ b o, b < B → w1.frozen? ⟨b, o, none⟩ = W.frozen? ⟨b, o, none⟩) :=
  ⟨fun b o h => hb.cell (p := ⟨b, o, none⟩) h, fun b o h => hb.frozen (p := ⟨b, o, none⟩) h⟩

/-- make as one equation, the new block not looked into -/
theorem make_run {P : Program} (t e : TypeId) (size bytes : Nat) (ht : P.underlying t = some (.slice e)) (hinfo : (P.info? e).map (fun i => (i.zero.isSome, i.size, i.bytes)) = some (true, size, bytes))
    (n : Nat) (hbytes : bytes * n ≤ 281474976710656) (h63 : n ≤ 9223372036854775807) :
    ∃ ob, (∀ w, (Instr.makeSlice t (.int .i64 (n : Int)) (.int .i64 (n : Int))).run P w = .ok (.slice (some ⟨w.heap.size, 0, none⟩) n n) (w.alloc ob)) ∧ ∀ w : World, (w.alloc ob).there w.heap.size 0 (n * size) := by
  obtain ⟨i, hi, hzz⟩ := Option.map_eq_some_iff.1 hinfo
  simp only [Prod.mk.injEq] at hzz
  obtain ⟨hz, hs, hb⟩ := hzz
  obtain ⟨z, hz⟩ := Option.isSome_iff_exists.1 hz
  subst hs hb
  have hb' : (i.bytes : Int) * (n : Int) ≤ 281474976710656 := by
    have h : ((i.bytes * n : Nat) : Int) ≤ 281474976710656 := by omega
    rwa [Int.natCast_mul] at h
  refine ⟨.cells (madeCells z.cells (n * i.size)) e, fun w => ?_, fun w => ?_⟩
  · have hrun := run_make (P := P) w t e i z ht hi hz .i64 .i64 n n (by omega) (Int.le_refl _) hb' (by omega)
    simp only [Int.toNat_natCast] at hrun
    exact hrun
  · intro j hj
    have hb : (w.alloc (.cells (madeCells z.cells (n * i.size)) e)).heap[w.heap.size]? = some (.cells (madeCells z.cells (n * i.size)) e (0, 0)) := heap_alloc_new w _
    generalize w.alloc (.cells (madeCells z.cells (n * i.size)) e) = W at hb ⊢
    refine ⟨?_, by unfold World.frozen?; rw [hb]; simp⟩
    rw [cell_of_row W _ _ _ _ _ hb, Array.getElem?_eq_getElem (by rw [size_madeCells]; omega)]
    rfl

theorem i65 : (Try.prog.info? 65).map (fun i => (i.zero.isSome, i.size, i.bytes)) = some (true, 3, 56) := by kernel_rfl
theorem i54 : (Try.prog.info? 54).map (fun i => (i.zero.isSome, i.size, i.bytes)) = some (true, 3, 48) := by kernel_rfl
theorem i3 : (Try.prog.info? 3).map (fun i => (i.zero.isSome, i.size, i.bytes)) = some (true, 1, 8) := by kernel_rfl
theorem i85' : (Try.prog.info? 85).map (fun i => (i.zero.isSome, i.size, i.bytes)) = some (true, 2, 16) := by kernel_rfl
theorem und35 : Try.prog.underlying 35 = some (.slice 65) := by kernel_rfl
theorem und63 : Try.prog.underlying 63 = some (.slice 54) := by kernel_rfl
theorem und25 : Try.prog.underlying 25 = some (.slice 3) := by kernel_rfl
theorem und83 : Try.prog.underlying 83 = some (.slice 85) := by kernel_rfl
theorem mk34 (w : World) : (Instr.makeSlice 34 (.int .i64 0) (.int .i64 0)).run Try.prog w = .ok (.slice (some ⟨w.heap.size, 0, none⟩) 0 0) (w.alloc (.cells #[] 52)) := by kernel_rfl
theorem mk33 (w : World) : (Instr.makeSlice 33 (.int .i64 0) (.int .i64 0)).run Try.prog w = .ok (.slice (some ⟨w.heap.size, 0, none⟩) 0 0) (w.alloc (.cells #[] 60)) := by kernel_rfl

end Go.Proofs.Qxb6615139a
