/-
  goneAt.
-/
import Derived.Test.Qxb6615139aWith2
namespace Go.Proofs.Qxb6615139a
open Go.RowKit Go.Maps

/-- the items among the first k places that are gone from scene s -/
def ksOf (d : Nat → Nat × Nat) (k s : Nat) : List Nat := ((List.range k).filter fun t => (d t).1 == s).map fun t => (d t).2

theorem ksOf_succ (d : Nat → Nat × Nat) (k s : Nat) : ksOf d (k + 1) s = ksOf d k s ++ if (d k).1 = s then [(d k).2] else [] := by
  unfold ksOf
  rw [List.range_succ, List.filter_append, List.map_append]
  by_cases h : (d k).1 = s <;> simp [h]

/-- k places are entered into the row gp of maps, new since w -/
structure Gone (gp n : Nat) (d : Nat → Nat × Nat) (w wr : World) (k : Nat) (f : Nat → Option Nat) : Prop where
  below : Below w.heap.size w wr
  ge : w.heap.size ≤ gp
  lt : gp < wr.heap.size
  row : wr.there gp 0 n
  cell : ∀ s, s < n → wr.cell? ⟨gp, s, none⟩ = some (.map (f s))
  nil : ∀ s, s < n → f s = none → ksOf d k s = []
  set : ∀ s, s < n → ∀ b, f s = some b → gp < b ∧ SetAt wr b k (ksOf d k s)
  inj : ∀ s s' b, s < n → s' < n → f s = some b → f s' = some b → s = s'

theorem SetAt.mono {w : World} {b n n' : Nat} {K : List Nat} (h : SetAt w b n K) (hn : n ≤ n') : SetAt w b n' K := by
  obtain ⟨D, h1, h2⟩ := h
  exact ⟨D, h1.mono hn, h2⟩

theorem ksOf_length (d : Nat → Nat × Nat) (k s : Nat) : (ksOf d k s).length ≤ k := by
  unfold ksOf
  rw [List.length_map]
  have := List.length_filter_le (fun t => (d t).1 == s) (List.range k)
  rwa [List.length_range] at this

theorem Gone.step {gp n : Nat} {d : Nat → Nat × Nat} {w wr W : World} {k : Nat} {f : Nat → Option Nat} (h : Gone gp n d w wr k f) {s i B : Nat} (hdk : d k = (s, i)) (hb : Below w.heap.size wr W) (hblk : ∀ b, b < wr.heap.size → b ≠ gp → b ≠ B → W.heap[b]? = wr.heap[b]?)
    (hc : ∀ s', s' < n → W.cell? ⟨gp, s', none⟩ = some (.map (if s' = s then some B else f s'))) (ht : W.there gp 0 n) (hs : SetAt W B (ksOf d k s ++ [i]).length (ksOf d k s ++ [i])) (hB : gp < B) (hnew : ∀ s', s' < n → f s' = some B → s' = s) :
    Gone gp n d w W (k + 1) (fun s' => if s' = s then some B else f s') := by
  have hl := h.lt
  refine ⟨h.below.trans hb, h.ge, Nat.lt_of_lt_of_le h.lt hb.size, ht, hc, fun s' hs' e => ?_, fun s' hs' b e => ?_, fun s1 s2 b h1 h2 e1 e2 => ?_⟩
  · by_cases e' : s' = s
    · simp [e'] at e
    · rw [ksOf_succ, hdk, if_neg (fun q => e' q.symm), List.append_nil]
      simp [e'] at e
      exact h.nil s' hs' e
  · by_cases e' : s' = s
    · simp only [if_pos e'] at e
      obtain rfl := Option.some.inj e
      refine ⟨hB, ?_⟩
      rw [ksOf_succ, hdk, e', if_pos rfl]
      refine hs.mono ?_
      have := ksOf_length d k s
      rw [List.length_append]
      simp only [List.length_cons, List.length_nil]
      omega
    · simp only [if_neg e'] at e
      obtain ⟨g1, g2⟩ := h.set s' hs' b e
      refine ⟨g1, ?_⟩
      rw [ksOf_succ, hdk, if_neg (fun q => e' q.symm), List.append_nil]
      exact (g2.of_block (hblk b g2.lt (by omega) (fun q => e' (hnew s' hs' (by rw [← q]; exact e))))).mono (by omega)
  · by_cases c1 : s1 = s
    · by_cases c2 : s2 = s
      · rw [c1, c2]
      · simp only [if_pos c1] at e1
        simp only [if_neg c2] at e2
        obtain rfl := Option.some.inj e1
        exact absurd (hnew s2 h2 e2) c2
    · by_cases c2 : s2 = s
      · simp only [if_neg c1] at e1
        simp only [if_pos c2] at e2
        obtain rfl := Option.some.inj e2
        exact absurd (hnew s1 h1 e1) c1
      · simp only [if_neg c1] at e1
        simp only [if_neg c2] at e2
        exact h.inj s1 s2 b h1 h2 e1 e2

theorem SetAt.tight {w : World} {b n : Nat} {K : List Nat} (h : SetAt w b n K) : SetAt w b K.length K := by
  obtain ⟨D, ⟨es, clock, hb, hf, hs, rfl⟩, h2, h3, h4⟩ := h
  refine ⟨_, ⟨es, clock, hb, hf, ?_, rfl⟩, h2, h3, h4⟩
  rw [← h4]
  show es.size ≤ ((es.toList.map _).foldr DataW.insert []).length
  rw [length_sorted]
  simp

theorem SetAt.again {w : World} {b n : Nat} {K : List Nat} (h : SetAt w b n K) (hn : n ≤ 1048577) {i : Nat} (hi : i ≤ 1048576) (hin : K.contains i = true) :
    ∃ w', (Instr.mapUpdate 93 (.map (some b)) (.int .i64 (i : Int)) (.bool true)).run Try.prog w = .ok () w' ∧ SetAt w' b (n + 1) K ∧ w.grownBy w' (some b) := by
  obtain ⟨D, h1, h2, h3, h4⟩ := h
  obtain ⟨w', hrun, h5, h6⟩ := h1.update keyed3 und93 (by unfold maxLen; omega) (key3 hi) (plainElem_bool und4 true)
  have hM : IsMap D := h1.isMap
  refine ⟨w', hrun, ⟨_, h5, fun j hj => ?_, fun j hj => ?_, ?_⟩, h6⟩
  · by_cases e : j = i
    · subst e
      rw [atKey_put_same hM (by trivial), hin]
    · rw [atKey_put_other (fun e' => e (by simp only [Lit.int.injEq] at e'; omega)), h2 j hj]
  · by_cases e : j = i
    · subst e
      rw [has_put_same hM (by trivial), hin]
    · rw [has_put_other (fun e' => e (by simp only [Lit.int.injEq] at e'; omega)), h3 j hj]
  · rw [size_put (h1.tidy keyed3), h3 i hi, hin, h4]
    simp

/-- the map at B holds K, or K and i -/
def Onto (B : Nat) (K : List Nat) (i : Nat) (w : World) : Prop := SetAt w B K.length K ∨ SetAt w B (K ++ [i]).length (K ++ [i])

theorem Onto.step {B : Nat} {K : List Nat} {i : Nat} (hK : K.length ≤ 1048576) (hi : i ≤ 1048576) (hnew : K.contains i = false) :
    ∃ F : World → World, ∀ w, Onto B K i w → (Instr.mapUpdate 93 (.map (some B)) (.int .i64 (i : Int)) (.bool true)).run Try.prog w = .ok () (F w) ∧ Onto B K i (F w) ∧ w.grownBy (F w) (some B) ∧ SetAt (F w) B (K ++ [i]).length (K ++ [i]) := by
  have : ∀ w, ∃ w', Onto B K i w → (Instr.mapUpdate 93 (.map (some B)) (.int .i64 (i : Int)) (.bool true)).run Try.prog w = .ok () w' ∧ Onto B K i w' ∧ w.grownBy w' (some B) ∧ SetAt w' B (K ++ [i]).length (K ++ [i]) := by
    intro w
    by_cases h : Onto B K i w
    · rcases h with h | h
      · obtain ⟨w', h1, h2, h3⟩ := h.put (by omega) hi hnew
        exact ⟨w', fun _ => ⟨h1, .inr h2.tight, h3, h2.tight⟩⟩
      · obtain ⟨w', h1, h2, h3⟩ := h.again (by simp; omega) hi (by simp)
        exact ⟨w', fun _ => ⟨h1, .inr h2.tight, h3, h2.tight⟩⟩
    · exact ⟨w, fun h' => absurd h' h⟩
  exact Classical.skolem.1 this

theorem und95 : Try.prog.underlying 95 = some (.slice 93) := by kernel_rfl
theorem i93 : (Try.prog.info? 93).map (fun i => (i.zero, i.size, i.bytes)) = some (some (.map none), 1, 8) := by kernel_rfl

theorem meq0 (w : World) : (binOp BinOp.eql 93 (.map none) (.map none)).run Try.prog w = .ok (.bool true) w := by kernel_rfl
theorem meq1 (b : Nat) (w : World) : (binOp BinOp.eql 93 (.map (some b)) (.map none)).run Try.prog w = .ok (.bool false) w := by kernel_rfl

theorem ksOf_new {d : Nat → Nat × Nat} {k m s i : Nat} (hinj : ∀ a b, a < m → b < m → d a = d b → a = b) (hk : k < m) (hdk : d k = (s, i)) : (ksOf d k s).contains i = false := by
  rw [← Bool.not_eq_true, List.contains_iff_mem]
  intro h
  obtain ⟨t, ht, e⟩ := List.mem_map.1 h
  rw [List.mem_filter, List.mem_range] at ht
  have e1 : (d t).1 = s := by simpa using ht.2
  have : d t = d k := by rw [hdk, ← e1, ← e]
  have := hinj t k (by omega) hk this
  omega

theorem Gone.next {gp n : Nat} {d : Nat → Nat × Nat} {w wr W W2 : World} {k : Nat} {f : Nat → Option Nat} (h : Gone gp n d w wr k f) {s i B : Nat} (hdk : d k = (s, i)) (hW : Kp gp wr W) (hcW : ∀ s', s' < n → W.cell? ⟨gp, s', none⟩ = some (.map (if s' = s then some B else f s'))) (htW : W.there gp 0 n)
    (hg : W.grownBy W2 (some B)) (hs : SetAt W2 B (ksOf d k s ++ [i]).length (ksOf d k s ++ [i])) (hB : gp < B) (hnew : ∀ s', s' < n → f s' = some B → s' = s) : Gone gp n d w W2 (k + 1) (fun s' => if s' = s then some B else f s') := by
  have hl := h.lt
  have hz := hW.size
  have hge := h.ge
  have hbz := h.below.size
  have hgp : W2.heap[gp]? = W.heap[gp]? := hg.block gp (by omega) (fun e => by have := Option.some.inj e; omega)
  refine h.step hdk ((hW.below h.ge h.below.size).trans ⟨hg.os, hg.tape, hg.output, hg.size, fun q hq => hg.block q (by omega) (fun e => by have := Option.some.inj e; omega)⟩) (fun b hb h1 h2 => ?_) (fun s' hs' => ?_) (fun j hj => ?_) hs hB hnew
  · rw [hg.block b (by omega) (fun e => h2 (Option.some.inj e)), hW.block b hb h1]
  · rw [World.cell?_of_block (w := W) hgp]; exact hcW s' hs'
  · rw [World.cell?_of_block (w := W) hgp, World.frozen?_of_block (w := W) hgp]; exact htW j hj

theorem held_of {A gp s i B : Nat} {K : List Nat} {F : World → World} (hF : ∀ w, Onto B K i w → (Instr.mapUpdate 93 (.map (some B)) (.int .i64 (i : Int)) (.bool true)).run Try.prog w = .ok () (F w) ∧ Onto B K i (F w) ∧ w.grownBy (F w) (some B) ∧ SetAt (F w) B (K ++ [i]).length (K ++ [i]))
    {w' : World} (h0 : w'.cell? ⟨A, 0, none⟩ = some (.int .i64 (s : Int))) (h1 : w'.cell? ⟨A, 1, none⟩ = some (.int .i64 (i : Int))) (h2 : w'.cell? ⟨gp, s, none⟩ = some (.map (some B))) (ho : Onto B K i w') :
    w'.cell? ⟨A, 0, none⟩ = some (.int .i64 (s : Int)) ∧ w'.cell? ⟨A, 1, none⟩ = some (.int .i64 (i : Int)) ∧ w'.cell? ⟨gp, s, none⟩ = some (.map (some B)) ∧
      (Instr.mapUpdate 93 (.map (some B)) (.int .i64 (i : Int)) (.bool true)).run Try.prog w' = .ok () (F w') ∧ Onto B K i w' := ⟨h0, h1, h2, (hF w' ho).1, ho⟩

theorem held_next {A gp s i B : Nat} {K : List Nat} {F : World → World} (hF : ∀ w, Onto B K i w → (Instr.mapUpdate 93 (.map (some B)) (.int .i64 (i : Int)) (.bool true)).run Try.prog w = .ok () (F w) ∧ Onto B K i (F w) ∧ w.grownBy (F w) (some B) ∧ SetAt (F w) B (K ++ [i]).length (K ++ [i]))
    (hA : A ≠ B) (hg : gp ≠ B) {w' : World} (h : w'.cell? ⟨A, 0, none⟩ = some (.int .i64 (s : Int)) ∧ w'.cell? ⟨A, 1, none⟩ = some (.int .i64 (i : Int)) ∧ w'.cell? ⟨gp, s, none⟩ = some (.map (some B)) ∧
      (Instr.mapUpdate 93 (.map (some B)) (.int .i64 (i : Int)) (.bool true)).run Try.prog w' = .ok () (F w') ∧ Onto B K i w') :
    (F w').cell? ⟨A, 0, none⟩ = some (.int .i64 (s : Int)) ∧ (F w').cell? ⟨A, 1, none⟩ = some (.int .i64 (i : Int)) ∧ (F w').cell? ⟨gp, s, none⟩ = some (.map (some B)) ∧
      (Instr.mapUpdate 93 (.map (some B)) (.int .i64 (i : Int)) (.bool true)).run Try.prog (F w') = .ok () (F (F w')) ∧ Onto B K i (F w') := by
  obtain ⟨-, ho, hgr, -⟩ := hF w' h.2.2.2.2
  exact held_of hF (hgr.cell h.1 (fun e => hA (Option.some.inj e))) (hgr.cell h.2.1 (fun e => hA (Option.some.inj e))) (hgr.cell h.2.2.1 (fun e => hg (Option.some.inj e))) ho

set_option maxHeartbeats 1000000 in
set_option maxRecDepth 100000 in
theorem goneAt_any (go c m n : Nat) (d : Nat → Nat × Nat) (w : World) (h : ∀ k, k < m → w.rangeAt go (k * 2) (pc (d k))) (hgo : go < w.heap.size) (hd : ∀ k, k < m → (d k).1 < n ∧ (d k).2 ≤ 1048576) (hinj : ∀ a b, a < m → b < m → d a = d b → a = b) (hm : m ≤ 1048576) (hn : n ≤ 1048576) :
    Calls Try.prog 26 #[.slice (some ⟨go, 0, none⟩) m c, .int .i64 n] w fun e w' => ∃ gp f, e = .returned (.slice (some ⟨gp, 0, none⟩) n n) ∧ Gone gp n d w w' m f := by
  have H : Hid (∀ k, k < m → w.rangeAt go (k * 2) (pc (d k))) := h
  have HD : Hid (∀ k, k < m → (d k).1 < n ∧ (d k).2 ≤ 1048576) := hd
  have HI : Hid (∀ a b, a < m → b < m → d a = d b → a = b) := hinj
  clear h hd hinj
  have hmk := fun w => run_make_row' (P := Try.prog) 95 93 (.map none) 8 und95 i93 rfl .i64 .i64 n (by omega) (by omega) w
  have hmm := @run_makeMap Try.prog
  have hq0 := meq0
  have hq1 := meq1
  go_enter Try.func26, Try.ntmps26
  go_wp2
  go_loopw [12] (fun vi wr => ∃ k f, k ≤ m ∧ vi = .int .i64 (k : Nat) ∧ Gone w.heap.size n d w wr k f) (fun vi _ => m - (intOf vi).toNat)
  case atStart =>
    have hrow := World.rowIs_made w (.map none) n 93
    refine ⟨0, fun _ => none, by omega, rfl, (Below.refl _ _).alloc (Nat.le_refl _) _, Nat.le_refl _, by simp, fun j hj => ?_, fun s hs => hrow.cell hs, fun s _ _ => rfl, fun s _ b e => by simp at e, fun s s' b _ _ e => by simp at e⟩
    rw [Nat.zero_add]
    exact ⟨by rw [hrow.cell hj]; rfl, hrow.frozen j⟩
  case round =>
    obtain ⟨k, f, hk, rfl, hG⟩ := hrel
    have HG : Hid (Gone w.heap.size n d w wr k f) := hG
    clear hmk hG
    by_cases hlt : k < m
    · obtain ⟨e1, e2⟩ := HD.out k hlt
      have hr := rangeAt_below HG.out.below (H.out k hlt) hgo
      obtain ⟨⟨s, i⟩, hdk⟩ : ∃ p, d k = p := ⟨_, rfl⟩
      have q0 : wr.cell? ⟨go, k * 2, none⟩ = some (.int .i64 (s : Int)) := hr 0 _ (by rw [hdk]; rfl)
      have q1 : wr.cell? ⟨go, k * 2 + 1, none⟩ = some (.int .i64 (i : Int)) := hr 1 _ (by rw [hdk]; rfl)
      rw [hdk] at e1 e2
      simp only at e1 e2
      have HDK : Hid (d k = (s, i)) := hdk
      have z0 := HG.out.below.size
      have z1 := HG.out.lt
      have z2 : go < wr.heap.size := by omega
      have hc := HG.out.cell _ e1
      have HT := HG.out.row
      obtain ⟨-, fz⟩ := there1 HG.out.row e1
      have HNEW : Hid ((ksOf d k s).contains i = false) := ksOf_new HI.out hlt hdk
      have HLEN : Hid ((ksOf d k s).length ≤ 1048576) := Nat.le_trans (ksOf_length d k s) (by omega)
      clear hr hdk
      rcases hf : f s with _ | b
      · rw [hf] at hc
        have HF0 : Hid (f s = none) := hf
        clear hf
        obtain ⟨F, hF⟩ := Onto.step (B := wr.heap.size + 1) HLEN.out e2 HNEW.out
        have HFF : Hid _ := hF
        clear hF
        have hks := HG.out.nil s e1 HF0.out
        have hOn : Onto (wr.heap.size + 1) (ksOf d k s) i (((wr.setCell ⟨w.heap.size, s, none⟩ (.map (some (wr.heap.size + 1)))).alloc (.cells #[.int .i64 (s : Int), .int .i64 (i : Int)] 85)).alloc (.map #[] 0)) := by
          rw [hks]
          have := set_made ((wr.setCell ⟨w.heap.size, s, none⟩ (.map (some (wr.heap.size + 1)))).alloc (.cells #[.int .i64 (s : Int), .int .i64 (i : Int)] 85))
          rw [show ((wr.setCell ⟨w.heap.size, s, none⟩ (.map (some (wr.heap.size + 1)))).alloc (.cells #[.int .i64 (s : Int), .int .i64 (i : Int)] 85)).heap.size = wr.heap.size + 1 by simp [World.setCell]] at this
          exact .inl this
        have HON : Hid (Onto (wr.heap.size + 1) (ksOf d k s) i (((wr.setCell ⟨w.heap.size, s, none⟩ (.map (some (wr.heap.size + 1)))).alloc (.cells #[.int .i64 (s : Int), .int .i64 (i : Int)] 85)).alloc (.map #[] 0))) := hOn
        have hne1 : wr.heap.size ≠ wr.heap.size + 1 := by omega
        have hne2 : w.heap.size ≠ wr.heap.size + 1 := by omega
        clear hOn hks
        go_wp2_with fail
        go_region_held3 (fun w' => w'.cell? ⟨wr.heap.size, 0, none⟩ = some (.int .i64 (s : Int)) ∧ w'.cell? ⟨wr.heap.size, 1, none⟩ = some (.int .i64 (i : Int)) ∧ w'.cell? ⟨w.heap.size, s, none⟩ = some (.map (some (wr.heap.size + 1))) ∧
          (Instr.mapUpdate 93 (.map (some (wr.heap.size + 1))) (.int .i64 (i : Int)) (.bool true)).run Try.prog w' = .ok () (F w') ∧ Onto (wr.heap.size + 1) (ksOf d k s) i w') (first | exact held_of HFF.out (by go_simp) (by go_simp) (by go_simp) HON.out | exact held_next HFF.out hne1 hne2 (by assumption) | assumption) (fail)
        go_wp2
        have hoW : Onto (wr.heap.size + 1) (ksOf d k s) i (((wr.setCell ⟨w.heap.size, s, none⟩ (.map (some (wr.heap.size + 1)))).alloc (.cells #[.int .i64 (s : Int), .int .i64 (i : Int)] 85)).alloc (.map #[] 0)).drew := HON.out
        obtain ⟨-, -, hgr, hset⟩ := HFF.out _ hoW
        have hk0 : Kp w.heap.size wr (wr.setCell ⟨w.heap.size, s, none⟩ (.map (some (wr.heap.size + 1)))) := (Kp.refl _ _).setCells s [.map (some (wr.heap.size + 1))]
        have hkp : Kp w.heap.size wr (((wr.setCell ⟨w.heap.size, s, none⟩ (.map (some (wr.heap.size + 1)))).alloc (.cells #[.int .i64 (s : Int), .int .i64 (i : Int)] 85)).alloc (.map #[] 0)).drew := ((hk0.alloc _).alloc _).trans (Kp.of_below (Below.refl _ _).drew)
        have ht1 : (wr.setCell ⟨w.heap.size, s, none⟩ (.map (some (wr.heap.size + 1)))).there w.heap.size 0 n := World.there_setCells HT w.heap.size s [.map (some (wr.heap.size + 1))]
        refine ⟨⟨k + 1, _, by omega, ie' (by omega), HG.out.next HDK.out hkp (fun s' hs' => ?_) (World.there_alloc (World.there_alloc ht1 _) _) hgr hset (by omega) (fun s' hs' e => ?_)⟩, by simp [intOf]; omega⟩
        · have h1 : (((wr.setCell ⟨w.heap.size, s, none⟩ (.map (some (wr.heap.size + 1)))).alloc (.cells #[.int .i64 (s : Int), .int .i64 (i : Int)] 85)).alloc (.map #[] 0)).drew.cell? ⟨w.heap.size, s', none⟩ = (wr.setCell ⟨w.heap.size, s, none⟩ (.map (some (wr.heap.size + 1)))).cell? ⟨w.heap.size, s', none⟩ :=
            (((Below.refl w.heap.size.succ _).alloc (by have := hk0.size; omega) _).alloc (by have := hk0.size; simp; omega) _).drew.cell (by dsimp only; omega)
          rw [h1]
          by_cases e : s' = s
          · rw [if_pos e, e]; exact World.cell?_setCell_same _ _ _ hc
          · rw [if_neg e, World.cell?_setCell_other _ _ _ _ (fun q => by simp only [Addr.mk.injEq] at q; omega)]; exact HG.out.cell s' hs'
        · have := (HG.out.set s' hs' _ e).2.lt
          omega
      · rw [hf] at hc
        have HF0 : Hid (f s = some b) := hf
        clear hf
        obtain ⟨F, hF⟩ := Onto.step (B := b) HLEN.out e2 HNEW.out
        have HFF : Hid _ := hF
        clear hF
        obtain ⟨g1, g2⟩ := HG.out.set s e1 b HF0.out
        have hOn : Onto b (ksOf d k s) i (wr.alloc (.cells #[.int .i64 (s : Int), .int .i64 (i : Int)] 85)) := .inl (g2.of_block (((Below.refl _ _).alloc (Nat.le_refl _) _).block b g2.lt)).tight
        have HON : Hid (Onto b (ksOf d k s) i (wr.alloc (.cells #[.int .i64 (s : Int), .int .i64 (i : Int)] 85))) := hOn
        have hne1 : wr.heap.size ≠ b := by have := g2.lt; omega
        have hne2 : w.heap.size ≠ b := by omega
        clear g2 hOn HT
        go_wp2_with fail
        go_region_held3 (fun w' => w'.cell? ⟨wr.heap.size, 0, none⟩ = some (.int .i64 (s : Int)) ∧ w'.cell? ⟨wr.heap.size, 1, none⟩ = some (.int .i64 (i : Int)) ∧ w'.cell? ⟨w.heap.size, s, none⟩ = some (.map (some b)) ∧
          (Instr.mapUpdate 93 (.map (some b)) (.int .i64 (i : Int)) (.bool true)).run Try.prog w' = .ok () (F w') ∧ Onto b (ksOf d k s) i w') (first | exact held_of HFF.out (by go_simp) (by go_simp) (by go_simp) HON.out | exact held_next HFF.out hne1 hne2 (by assumption) | assumption) (fail)
        go_wp2
        have hoW : Onto b (ksOf d k s) i (wr.alloc (.cells #[.int .i64 (s : Int), .int .i64 (i : Int)] 85)).drew := HON.out
        obtain ⟨-, -, hgr, hset⟩ := HFF.out _ hoW
        have hkp : Kp w.heap.size wr (wr.alloc (.cells #[.int .i64 (s : Int), .int .i64 (i : Int)] 85)).drew := Kp.of_below ((Below.refl _ _).alloc (Nat.le_refl _) _).drew
        refine ⟨⟨k + 1, _, by omega, ie' (by omega), HG.out.next HDK.out hkp (fun s' hs' => ?_) (World.there_alloc HG.out.row _) hgr hset g1 (fun s' hs' e => HG.out.inj s' s b hs' e1 e HF0.out)⟩, by simp [intOf]; omega⟩
        have h1 : (wr.alloc (.cells #[.int .i64 (s : Int), .int .i64 (i : Int)] 85)).drew.cell? ⟨w.heap.size, s', none⟩ = wr.cell? ⟨w.heap.size, s', none⟩ := ((Below.refl _ _).alloc (Nat.le_refl _) _).drew.cell (by dsimp only; omega)
        rw [h1, HG.out.cell s' hs']
        by_cases e : s' = s
        · rw [if_pos e, e, HF0.out]
        · rw [if_neg e]
    · have ekm : k = m := by omega
      go_wp2
      go_ret
      have hG := HG.out
      rw [ekm] at hG
      exact ⟨_, f, rfl, hG⟩
end Go.Proofs.Qxb6615139a
