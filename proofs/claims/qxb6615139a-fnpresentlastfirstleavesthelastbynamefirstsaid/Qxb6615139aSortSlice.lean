/-
  sort.SliceStable at a slice of pairs.
-/
import Derived.Test.Qxb6615139aSortStable
import Derived.Lib.ReflectliteSlice
namespace Go.Proofs.Qxb6615139a
open Go.RowKit Plain

theorem i83 : (Try.prog.info? 83).map (fun i => i.desc) = some (.slice 85) := by kernel_rfl
theorem i85 : (Try.prog.info? 85).map (fun i => (i.hasPointers, i.bytes, i.size)) = some (false, 16, 2) := by kernel_rfl
theorem k85 (w : World) : (Extern.Rtype.kind 85).run Try.prog w = .ok 25 w := by kernel_rfl
theorem pk83 : Try.prog.packed 83 = false := by kernel_rfl

/-- reflectlite.ValueOf(x) -/
theorem call_valueOf (p : Option Addr) (n c : Nat) (w : World) :
    (callFunc 31 #[.iface 83 (.slice p n c)]).run Try.prog w = .ok (.value (.agg #[typeHandle Try.prog 83, .pointer (some ⟨w.heap.size, 0, none⟩), .int .u64 151])) (w.alloc (.cells #[.slice p n c] 83)) := by
  obtain ⟨i, hi, hd⟩ := Option.map_eq_some_iff.1 i83
  have hv := Lib.run_valueOf_slice (P := Try.prog) 83 85 i hi hd p n c w
  rw [run_callFunc_extern Try.func31 (by kernel_rfl) (by kernel_rfl) (by kernel_rfl) (e := fun args => Extern.ReflectliteValue.unpack (args.getD 0 (.tuple #[]))) (by kernel_rfl),
    show Sem.run Try.prog ((fun args : Array Value => Extern.ReflectliteValue.unpack (args.getD 0 (.tuple #[]))) #[.iface 83 (.slice p n c)]) w = _ from hv]
  rfl

/-- rv.Len() -/
theorem call_len (a : Addr) (p : Option Addr) (n c : Nat) (w : World) (ha : w.cell? a = some (.slice p n c)) :
    (callFunc 34 #[.agg #[typeHandle Try.prog 83, .pointer (some a), .int .u64 151]]).run Try.prog w = .ok (.value (.int .i64 n)) w := by
  obtain ⟨i, hi, hd⟩ := Option.map_eq_some_iff.1 i83
  have hl := Lib.run_valueLen_slice (P := Try.prog) 83 85 i hi hd pk83 a p n c w ha
  rw [run_callFunc_extern Try.func34 (by kernel_rfl) (by kernel_rfl) (by kernel_rfl) (e := Extern.ReflectliteValue.method (Extern.ReflectliteValue.valueError "reflectlite.Value.Len" 0) Extern.ReflectliteValue.len) (by kernel_rfl), hl]
  rfl

/-- reflectlite.Swapper(x) at two elements or more -/
theorem call_swapper (blk N c : Nat) (h2 : 2 ≤ N) (w : World) :
    (callFunc 32 #[.iface 83 (.slice (some ⟨blk, 0, none⟩) N c)]).run Try.prog w = .ok (.value (.func (.func 43) #[] (bound (typeHandle Try.prog 85) blk N c))) w := by
  obtain ⟨i, hi, hd⟩ := Option.map_eq_some_iff.1 i83
  obtain ⟨ie, hie, he⟩ := Option.map_eq_some_iff.1 i85
  simp only [Prod.mk.injEq] at he
  have hK : Lib.swapperK N ie 25 = 9 := by
    have c0 : (N == 0) = false := by simp; omega
    have c1 : (N == 1) = false := by simp; omega
    simp [Lib.swapperK, he.1, he.2.1, c0, c1]
  have hs := Lib.run_swapper_slice (P := Try.prog) 83 85 i ie hi hd hie 25 k85 (some ⟨blk, 0, none⟩) N c 43 (by rw [hK]; kernel_rfl) w
  rw [hK] at hs
  refine (run_callFunc_extern Try.func32 (by kernel_rfl) (by kernel_rfl) (by kernel_rfl) ?he _ w).trans ((congrArg (fun r => Result.andThen r _) hs).trans rfl)
  case he => kernel_rfl

/-- .. at none or one -/
theorem call_swapper_tiny (p : Option Addr) (N c : Nat) (h2 : N ≤ 1) :
    ∃ f, ∀ w, (callFunc 32 #[.iface 83 (.slice p N c)]).run Try.prog w = .ok (.value (.func (.func f) #[] #[])) w := by
  obtain ⟨i, hi, hd⟩ := Option.map_eq_some_iff.1 i83
  obtain ⟨ie, hie, he⟩ := Option.map_eq_some_iff.1 i85
  rcases (show N = 0 ∨ N = 1 by omega) with rfl | rfl
  · have hK : Lib.swapperK 0 ie 25 = 1 := by simp [Lib.swapperK]
    have hs := Lib.run_swapper_slice (P := Try.prog) 83 85 i ie hi hd hie 25 k85 p 0 c 35 (by rw [hK]; kernel_rfl)
    rw [hK] at hs
    refine ⟨35, fun w => (run_callFunc_extern Try.func32 (by kernel_rfl) (by kernel_rfl) (by kernel_rfl) ?he _ w).trans ((congrArg (fun r => Result.andThen r _) (hs w)).trans rfl)⟩
    case he => kernel_rfl
  · have hK : Lib.swapperK 1 ie 25 = 2 := by simp [Lib.swapperK]
    have hs := Lib.run_swapper_slice (P := Try.prog) 83 85 i ie hi hd hie 25 k85 p 1 c 36 (by rw [hK]; kernel_rfl)
    rw [hK] at hs
    refine ⟨36, fun w => (run_callFunc_extern Try.func32 (by kernel_rfl) (by kernel_rfl) (by kernel_rfl) ?he _ w).trans ((congrArg (fun r => Result.andThen r _) (hs w)).trans rfl)⟩
    case he => kernel_rfl

theorem ins_tiny (lb sb : Array Value) (f n : Nat) (hn : n ≤ 1) (w : World) :
    Calls Try.prog 44 #[.agg #[.func (.func 30) #[] lb, .func (.func f) #[] sb], .int .i64 0, .int .i64 n] w fun e w' => e = .returned (.tuple #[]) ∧ Below w.heap.size w w' := by
  go_enter Try.func44, Try.ntmps44
  go_wp2
  refine wp_loop_rounds 1 ?_
  rw [rounds_succ]
  go_wp2
  go_end0
  exact ⟨rfl, (Below.refl _ _).alloc (Nat.le_refl _) _⟩

theorem stable_tiny (lb sb : Array Value) (f n : Nat) (hn : n ≤ 1) (w : World) :
    Calls Try.prog 33 #[.agg #[.func (.func 30) #[] lb, .func (.func f) #[] sb], .int .i64 n] w fun e w' => e = .returned (.tuple #[]) ∧ Below w.heap.size w w' := by
  have hc := fun w => ins_tiny lb sb f n hn w
  have HC : Hid _ := hc
  clear hc
  go_enter Try.func33, Try.ntmps33
  go_wp2
  refine wp_loop_rounds 1 ?_
  rw [rounds_succ]
  go_wp2_with (go_at_call 44; refine (HC.out _).mono ?_; rintro e w1 ⟨rfl, hb⟩; have HB : Hid (Below _ _ w1) := hb; clear hb)
  refine wp_loop_rounds 1 ?_
  rw [rounds_succ]
  go_wp2
  go_end0
  exact ⟨rfl, ((Below.refl _ _).alloc (Nat.le_refl _) _).trans (HB.out.mono (by simp))⟩

/-- What LessOk asks is asked no more of where the world has grown. -/
theorem LessOk.later {lb : Array Value} {W0 W1 : World} {blk N : Nat} {ok : Nat × Nat → Prop} {lt : Nat × Nat → Nat × Nat → Bool} (h : LessOk lb W0 blk N ok lt) (hk : Kp blk W0 W1) : LessOk lb W1 blk N ok lt :=
  fun d w hw hr ho i j hi hj => h d w (hk.trans hw) hr ho i j hi hj

set_option maxHeartbeats 1000000 in
/-- sort.SliceStable(order, less): the row holds the same pairs, sorted; all other old blocks stand. -/
theorem sliceStable_any (blk N c : Nat) (ok : Nat × Nat → Prop) (lt : Nat × Nat → Nat × Nat → Bool) (hO : Ord lt) (lb : Array Value) (hN : N ≤ 1048576) (h2 : 2 ≤ N) (d : Nat → Nat × Nat) (w : World) (hle : LessOk lb w blk N ok lt) (hr : Row w blk N d) (hok : ∀ k, k < N → ok (d k)) (hblk : blk < w.heap.size) :
    Calls Try.prog 29 #[.iface 83 (.slice (some ⟨blk, 0, none⟩) N c), .func (.func 30) #[] lb] w fun e w' => e = .returned (.tuple #[]) ∧ ∃ d', Kp blk w w' ∧ Row w' blk N d' ∧ PermN N d d' ∧ Srt lt 0 N d' := by
  have hv := call_valueOf (some ⟨blk, 0, none⟩) N c
  have hs := call_swapper blk N c h2
  have hl := fun a w ha => call_len a (some ⟨blk, 0, none⟩) N c w ha
  have hsw : SwapOk (bound (typeHandle Try.prog 85) blk N c) blk N := fun d w hr i j hi hj => run_swap blk N c d w hr i j hi hj
  have hst : St w blk N ok d w := ⟨Kp.refl _ _, hr, hok, hblk⟩
  have hc : ∀ o1 o2, Calls Try.prog 33 #[.agg #[.func (.func 30) #[] lb, .func (.func 43) #[] (bound (typeHandle Try.prog 85) blk N c)], .int .i64 N] ((w.alloc o1).alloc o2) fun e w' => e = .returned (.tuple #[]) ∧ ∃ d', Did w blk N ok d d' ((w.alloc o1).alloc o2) w' ∧ Srt lt 0 N d' :=
    fun o1 o2 => stable_any w blk N ok lt hO lb _ hN hsw hle d _ ((hst.alloc o1).alloc o2)
  have HC : Hid _ := hc
  clear hsw hst hc hle hO hok hr
  generalize bound (typeHandle Try.prog 85) blk N c = sb at *
  obtain ⟨G, hG⟩ : ∃ G, typeHandle Try.prog 83 = .pointer (some ⟨G, 83, none⟩) := ⟨_, rfl⟩
  simp only [hG] at hv hl
  clear hG
  go_enter Try.func29, Try.ntmps29
  go_wp2_with (go_at_call 33; refine (HC.out _ _).mono ?_; rintro e w1 ⟨rfl, d', hd, hs'⟩)
  go_end0
  exact ⟨rfl, d', hd.boxed.boxed.kp, hd.st.row, hd.perm, hs'⟩

set_option maxHeartbeats 1000000 in
theorem sliceStable_tiny (p : Option Addr) (N c : Nat) (h2 : N ≤ 1) (lb : Array Value) (w : World) :
    Calls Try.prog 29 #[.iface 83 (.slice p N c), .func (.func 30) #[] lb] w fun e w' => e = .returned (.tuple #[]) ∧ Below w.heap.size w w' := by
  have hv := call_valueOf p N c
  have hl := fun a w ha => call_len a p N c w ha
  obtain ⟨f, hs⟩ := call_swapper_tiny p N c h2
  have HC : Hid _ := fun o1 o2 => stable_tiny lb #[] f N h2 ((w.alloc o1).alloc o2)
  obtain ⟨G, hG⟩ : ∃ G, typeHandle Try.prog 83 = .pointer (some ⟨G, 83, none⟩) := ⟨_, rfl⟩
  simp only [hG] at hv hl
  clear hG
  go_enter Try.func29, Try.ntmps29
  go_wp2_with (go_at_call 33; refine (HC.out _ _).mono ?_; rintro e w1 ⟨rfl, hb⟩)
  go_end0
  exact ⟨rfl, (((Below.refl _ _).alloc (Nat.le_refl _) _).alloc (by simp) _).trans (hb.mono (by simp; omega))⟩
end Go.Proofs.Qxb6615139a
