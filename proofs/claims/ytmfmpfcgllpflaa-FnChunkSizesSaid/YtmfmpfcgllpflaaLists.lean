/-
  Lists of lists of ints in memory. No statement is proved here.
-/
import Derived.Test.YtmfmpfcgllpflaaBase
namespace Go.Proofs.Ytmfmpfcgllpflaa
open Go.RowKit Go.Shelf

/-- A slice of slices of ints: its lists are L. -/
def SeesL (w : World) (B : Nat) (v : Value) (L : List (List Int)) : Prop :=
  ∃ vs, Sees w B 1 v L.length vs ∧ ∀ i (h : i < L.length), ∃ u, vs[i]? = some u ∧ SeesI w B u L[i]
section
variable {w w' : World} {B B' : Nat} {v : Value} {L : List (List Int)}
theorem SeesL.below (h : SeesL w B v L) (hb : Below B w w') : SeesL w' B v L := by
  obtain ⟨vs, h1, h2⟩ := h
  exact ⟨vs, h1.below hb, fun i hi => by obtain ⟨u, hu, hs⟩ := h2 i hi; exact ⟨u, hu, hs.below hb⟩⟩
theorem SeesL.more (h : SeesL w B v L) (hB : B ≤ B') : SeesL w B' v L := by
  obtain ⟨vs, h1, h2⟩ := h
  exact ⟨vs, h1.more hB, fun i hi => by obtain ⟨u, hu, hs⟩ := h2 i hi; exact ⟨u, hu, hs.more hB⟩⟩
theorem SeesL.drewN (h : SeesL w B v L) (k : Nat) : SeesL (w.drewN k) B v L := h
theorem SeesL.form (h : SeesL w B v L) : ∃ A c, v = .slice A L.length c ∧ L.length ≤ c ∧
    (0 < L.length → ∃ b off, A = some ⟨b, off, none⟩ ∧ b < B ∧ ∀ j (hj : j < L.length), ∃ u, w.cell? ⟨b, off + j, none⟩ = some u ∧ SeesI w B u L[j]) := by
  obtain ⟨vs, ⟨hl, A, c, e, hc, hs⟩, h2⟩ := h
  refine ⟨A, c, e, hc, fun h0 => ?_⟩
  obtain ⟨b, off, hA, hb, hx⟩ := hs h0
  refine ⟨b, off, hA, hb, fun j hj => ?_⟩
  obtain ⟨u, hu, hs'⟩ := h2 j hj
  exact ⟨u, (hx j (by omega)).trans hu, hs'⟩
end
/-- All lists, one behind the other. -/
def flat (L : List (List Int)) : List Int := L.flatten
/-- The first k lists, one behind the other. -/
def flatTo (L : List (List Int)) (k : Nat) : List Int := (L.take k).flatten
theorem flatTo_zero (L : List (List Int)) : flatTo L 0 = [] := by simp [flatTo]
theorem flatTo_all (L : List (List Int)) : flatTo L L.length = flat L := by simp [flatTo, flat]
theorem flat_snoc (L : List (List Int)) {k : Nat} (h : k < L.length) : flatTo L (k + 1) = flatTo L k ++ L[k] := by
  unfold flatTo
  rw [List.take_succ_eq_append_getElem h, List.flatten_append]
  simp
theorem flat_le (L : List (List Int)) (k : Nat) : (flatTo L k).length ≤ (flat L).length := by
  have h : L.flatten = (L.take k).flatten ++ (L.drop k).flatten := by rw [← List.flatten_append, List.take_append_drop]
  unfold flat flatTo
  rw [h, List.length_append]
  omega
theorem flat_one (L : List (List Int)) {k : Nat} (h : k < L.length) : (flatTo L k).length + L[k].length ≤ (flat L).length := by
  have := flat_le L (k + 1)
  rw [flat_snoc L h, List.length_append] at this
  exact this

end Go.Proofs.Ytmfmpfcgllpflaa
