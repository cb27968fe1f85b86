/-
  without[EntityRef], without[Fact] at no place, placesOf at no place, left.
-/
import Derived.Test.Qxb6615139aSet
namespace Go.Proofs.Qxb6615139a
open Go.RowKit Go.Maps

theorem mkmap0 (w : World) : (Instr.makeMap 93 (some (.int .i64 0))).run Try.prog w = .ok (.map (some w.heap.size)) (w.alloc (.map #[] 0)) := by kernel_rfl

set_option maxHeartbeats 400000 in
theorem placesOf_none (p : Option Addr) (c : Nat) (w : World) :
    Calls Try.prog 25 #[.slice p 0 c] w fun e w' => e = .returned (.map (some w.heap.size)) ∧ Below w.heap.size w w' ∧ SetAt w' w.heap.size 0 [] := by
  have hmm := mkmap0
  go_enter Try.func25, Try.ntmps25
  go_wp2
  go_loop [11] (fun vi => vi = .int .i64 0) (fun _ => 0)
  case atStart => rfl
  case round =>
    subst hrel
    go_wp2
    go_ret
    exact ⟨rfl, (Below.refl _ _).alloc (Nat.le_refl _) _, set_made w⟩

set_option maxHeartbeats 400000 in
theorem withoutFact_none (p : Option Addr) (n c b k : Nat) (w : World) (h : SetAt w b k []) :
    Calls Try.prog 24 #[.slice p n c, .map (some b)] w fun e w' => e = .returned (.slice p n c) ∧ w = w' := by
  have hl := fun ty => h.len ty
  go_enter Try.func24, Try.ntmps24
  go_wp2
  go_ret
  exact ⟨rfl, rfl⟩

/-- the counts that leave hands on -/
def cut3 (n : Nat) : Array Value := #[.int .i64 0, .int .i64 0, .int .i64 (n : Int)]

set_option maxHeartbeats 400000 in
set_option maxRecDepth 100000 in
theorem left_any (Bk pr cr pf cf n : Nat) (w : World) (h4 : w.cell? ⟨Bk, 4, none⟩ = some (.slice (some ⟨pf, 0, none⟩) 0 cf)) (h5 : w.cell? ⟨Bk, 5, none⟩ = some (.slice (some ⟨pr, 0, none⟩) 0 cr))
    (h9 : w.cell? ⟨Bk, 9, none⟩ = some (.int .i64 0)) (h10 : w.cell? ⟨Bk, 10, none⟩ = some (.int .i64 0)) (h11 : w.cell? ⟨Bk, 11, none⟩ = some (.int .i64 0)) (hn : n ≤ 1048576) :
    Calls Try.prog 23 #[.pointer (some ⟨Bk, 0, none⟩), .int .i64 n] w fun e w' => e = .returned (.agg (cut3 n)) ∧ Below w.heap.size w w' := by
  have l4 := lt_of_cell h4
  simp only at l4
  rcases Nat.eq_zero_or_pos n with rfl | hpos
  all_goals
    go_enter Try.func23, Try.ntmps23
    go_wp2
    go_region_held3 (fun w' => w'.cell? ⟨Bk, 4, none⟩ = some (.slice (some ⟨pf, 0, none⟩) 0 cf) ∧ w'.cell? ⟨Bk, 5, none⟩ = some (.slice (some ⟨pr, 0, none⟩) 0 cr)) (go_keep) (fail)
    go_wp2
  · refine bodyPost_ret (v := .agg (cut3 0)) (by simp [results, Try.results23, go_sem, cut3]) rfl ⟨rfl, below_any' (by go_grown)⟩
  · refine bodyPost_ret (v := .agg (cut3 n)) (by simp [results, Try.results23, go_sem, cut3]) rfl ⟨rfl, below_any' (by go_grown)⟩
end Go.Proofs.Qxb6615139a
