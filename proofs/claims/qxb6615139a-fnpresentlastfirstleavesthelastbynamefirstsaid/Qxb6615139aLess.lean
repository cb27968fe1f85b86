/-
  the order that presentLastFirst sorts by, and its less as the sort asks for it.
-/
import Derived.Test.Qxb6615139aRef
import Derived.Test.Qxb6615139aMake
namespace Go.Proofs.Qxb6615139a
open Go.RowKit Plain

/-- is there an item at this place? -/
def Okp (S : List Sc) (p : Nat × Nat) : Prop := ∃ s r, S[p.1]? = some s ∧ s.pres[p.2]? = some r
/-- the item at a place -/
def rf (S : List Sc) (p : Nat × Nat) : Rf := ((S[p.1]?).bind fun s => s.pres[p.2]?).getD ⟨⟨#[]⟩, ⟨#[]⟩, ⟨#[]⟩⟩
/-- the first is left before the second -/
def ltp (S : List Sc) (p q : Nat × Nat) : Bool := tg (rf S p) p.1 (rf S q) q.1

theorem rf_eq {S : List Sc} {p : Nat × Nat} {s : Sc} {r : Rf} (h : S[p.1]? = some s) (h' : s.pres[p.2]? = some r) : rf S p = r := by simp [rf, h, h']

theorem ord_ltp (S : List Sc) : Ord (ltp S) := ⟨fun _ => tg_irrefl _ _, fun _ _ h => tg_asymm _ _ _ _ h, fun _ _ _ h h' => tg_through _ _ _ _ _ _ h h'⟩

/-- what the scene holds, read in a later world -/
theorem ref_at {bs n : Nat} {S : List Sc} {hd : Nat → Option Addr × Nat} {w W : World} {Bc : Nat} {p q : Nat} {s : Sc} {r : Rf} (hS : ScAt w (some ⟨bs, 0, none⟩) S hd) (hn : S.length = n) (hs : S[p]? = some s) (hr : s.pres[q]? = some r)
    (hb : Below w.heap.size w W) (hc : W.cell? ⟨Bc, 6, none⟩ = some (.slice (some ⟨bs, 0, none⟩) n n)) :
    Calls Try.prog 28 #[.agg #[.int .i64 p, .int .i64 q], .pointer (some ⟨Bc, 0, none⟩)] W fun e w' => e = .returned (.agg #[.string r.id, .string r.ty, .string r.name]) ∧ Below W.heap.size W w' := by
  obtain ⟨⟨b, off, e, h1, h2⟩, h3⟩ := hS p s hs
  have e' := Option.some.inj e
  simp only [Addr.mk.injEq] at e'
  obtain ⟨rfl, rfl, -⟩ := e'
  obtain ⟨b2, off2, e2, g1, g2⟩ := h3 q r hr
  obtain ⟨-, -, c2⟩ := at3s (rangeAt_below hb h2 h1)
  obtain ⟨d0, d1, d2⟩ := at3r (rangeAt_below hb g2 g1)
  rw [e2] at c2
  exact ref_any p q Bc bs 0 n n b2 off2 s.pres.length _ r W hc c2 d0 d1 d2 (by have := (List.getElem?_eq_some_iff.1 hs).1; omega) (List.getElem?_eq_some_iff.1 hr).1

theorem less_ok {bs n : Nat} {S : List Sc} {hd : Nat → Option Addr × Nat} {w W0 : World} {Br Bo Bc blk N cap : Nat} (hS : ScAt w (some ⟨bs, 0, none⟩) S hd) (hn : S.length = n) (hb : Below w.heap.size w W0) (hblk : w.heap.size ≤ blk)
    (hBr : W0.cell? ⟨Br, 0, none⟩ = some (.func (.func 28) #[] #[.pointer (some ⟨Bc, 0, none⟩)])) (hBo : W0.cell? ⟨Bo, 0, none⟩ = some (.slice (some ⟨blk, 0, none⟩) N cap)) (hBc : W0.cell? ⟨Bc, 6, none⟩ = some (.slice (some ⟨bs, 0, none⟩) n n))
    (n1 : Br ≠ blk) (n2 : Bo ≠ blk) (n3 : Bc ≠ blk) : LessOk #[.pointer (some ⟨Br, 0, none⟩), .pointer (some ⟨Bo, 0, none⟩)] W0 blk N (Okp S) (ltp S) := by
  intro d w' hk hr hok i j hi hj
  have hb' : Below w.heap.size w w' := hb.trans (hk.below hblk hb.size)
  have l1 := lt_of_cell hBr
  have l2 := lt_of_cell hBo
  have l3 := lt_of_cell hBc
  rw [← hk.cell l1 n1] at hBr
  rw [← hk.cell l2 n2] at hBo
  rw [← hk.cell l3 n3] at hBc
  obtain ⟨s1, r1, hs1, hr1⟩ := hok i hi
  obtain ⟨s2, r2, hs2, hr2⟩ := hok j hj
  have e1 := rf_eq hs1 hr1
  have e2 := rf_eq hs2 hr2
  have hR : Reads Br Bo Bc blk N cap i j (d i).1 (d i).2 (d j).1 (d j).2 w' := ⟨hBr, hBo, (hr.at hi).1, (hr.at hi).2, (hr.at hj).1, (hr.at hj).2⟩
  have hBcl := lt_of_cell hBc
  have hcell : ∀ W, Below w'.heap.size w' W → W.cell? ⟨Bc, 6, none⟩ = some (.slice (some ⟨bs, 0, none⟩) n n) := fun W hW => by rw [hW.cell hBcl]; exact hBc
  have := less_core Br Bo Bc blk N cap i j (d i).1 (d i).2 (d j).1 (d j).2 r1 r2 w' hR hi hj (fun W hW => ref_at hS hn hs1 hr1 (hb'.trans (hW.mono hb'.size)) (hcell W hW)) (fun W hW => ref_at hS hn hs2 hr2 (hb'.trans (hW.mono hb'.size)) (hcell W hW))
  unfold ltp
  rw [e1, e2]
  exact this

/-- all places of the first k scenes, in order -/
def enK (S : List Sc) : Nat → List (Nat × Nat)
  | 0 => []
  | k + 1 => enK S k ++ (List.range (((S[k]?).map fun s => s.pres.length).getD 0)).map fun i => (k, i)

theorem enK_length (S : List Sc) : ∀ k, k ≤ S.length → (enK S k).length = tot (S.take k)
  | 0, _ => by simp [enK, tot]
  | k + 1, h => by
    have hs : S[k]? = some S[k] := List.getElem?_eq_getElem (by omega)
    rw [tot_take hs, enK, List.length_append, enK_length S k (by omega)]
    simp [hs]

theorem mem_enK (S : List Sc) : ∀ (k : Nat) (p : Nat × Nat), p ∈ enK S k ↔ p.1 < k ∧ Okp S p
  | 0, p => by simp [enK]
  | k + 1, p => by
    rw [enK, List.mem_append, mem_enK S k p]
    constructor
    · rintro (⟨h1, h2⟩ | h)
      · exact ⟨by omega, h2⟩
      · obtain ⟨i, hi, rfl⟩ := List.mem_map.1 h
        rw [List.mem_range] at hi
        cases hs : S[k]? with
        | none => simp [hs] at hi
        | some s =>
          simp [hs] at hi
          exact ⟨by simp, s, s.pres[i], hs, List.getElem?_eq_getElem hi⟩
    · rintro ⟨h1, s, r, hs, hr⟩
      by_cases e : p.1 = k
      · right
        refine List.mem_map.2 ⟨p.2, ?_, by rw [← e]⟩
        rw [e] at hs
        rw [List.mem_range]
        simp [hs]
        exact (List.getElem?_eq_some_iff.1 hr).1
      · exact .inl ⟨by omega, s, r, hs, hr⟩

theorem nodup_enK (S : List Sc) : ∀ k, (enK S k).Nodup
  | 0 => List.nodup_nil
  | k + 1 => by
    rw [enK, List.nodup_append]
    refine ⟨nodup_enK S k, List.Pairwise.map _ (fun a b h e => h (Prod.mk.inj e).2) List.nodup_range, fun a ha b hb e => ?_⟩
    obtain ⟨i, _, rfl⟩ := List.mem_map.1 hb
    have := ((mem_enK S k a).1 ha).1
    rw [e] at this
    simp at this
end Go.Proofs.Qxb6615139a
