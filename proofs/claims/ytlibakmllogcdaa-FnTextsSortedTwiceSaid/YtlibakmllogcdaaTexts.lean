/-
  Slices of strings that are seen. No statement is proved here.
-/
import Derived.Test.YtlibakmllogcdaaBase
import Derived.Sort.OwnSorted
namespace Go.Proofs.Ytlibakmllogcdaa
open Go.RowKit Go.Shelf Go.Sort

theorem Try.infoStr : (Try.prog.info? 9).map (fun i => (i.zero, i.size, i.bytes)) = some (some (.string ⟨#[]⟩), 1, 16) := by kernel_rfl
theorem str_cell (ss : List (List UInt8)) : ∀ u ∈ ss.map encStr, u.oneCell' = true := by
  intro u hu
  obtain ⟨s, _, rfl⟩ := List.mem_map.1 hu
  rfl
theorem take_snoc_getDT (ss : List (List UInt8)) {k : Nat} (h : k < ss.length) : ss.take (k + 1) = ss.take k ++ [ss[k]?.getD []] := by
  rw [List.take_succ_eq_append_getElem h, List.getElem?_eq_getElem h]
  rfl

theorem own_str {w : World} {base g c : Nat} {e : TypeId} {zs : List (List UInt8)} (h : w.ownsRow base e 1 (.slice (some ⟨g, 0, none⟩) zs.length c) zs.length (zs.map encStr)) (k : Nat) (hk : k < zs.length) : w.cell? ⟨g, k, none⟩ = some (encStr (zs[k]?.getD [])) := by
  rw [h.cellAt k (by omega), List.getElem?_map, List.getElem?_eq_getElem hk]
  rfl

/-- A slice that shows texts. -/
def SeesT (w : World) (B : Nat) (v : Value) (ss : List (List UInt8)) : Prop := Sees w B 1 v ss.length (ss.map encStr)
section
variable {w w' : World} {B B' : Nat} {v : Value} {ss : List (List UInt8)}
theorem SeesT.below (h : SeesT w B v ss) (hb : Below B w w') : SeesT w' B v ss := Sees.below h hb
theorem SeesT.more (h : SeesT w B v ss) (hB : B ≤ B') : SeesT w B' v ss := Sees.more h hB
theorem SeesT.drewN (h : SeesT w B v ss) (k : Nat) : SeesT (w.drewN k) B v ss := Sees.drewN h k
theorem SeesT.own {base : Nat} {e : TypeId} (h : w.ownsRow base e 1 v ss.length (ss.map encStr)) : SeesT w w.heap.size v ss := Sees.own h
theorem SeesT.form (h : SeesT w B v ss) : ∃ A c, v = .slice A ss.length c ∧ ss.length ≤ c ∧
    (0 < ss.length → ∃ b off, A = some ⟨b, off, none⟩ ∧ b < B ∧ ∀ j, j < ss.length → w.cell? ⟨b, off + j, none⟩ = some (encStr (ss[j]?.getD []))) := by
  obtain ⟨_, A, c, e, hc, hs⟩ := h
  refine ⟨A, c, e, hc, fun h0 => ?_⟩
  obtain ⟨b, off, hA, hb, hx⟩ := hs (by omega)
  refine ⟨b, off, hA, hb, fun j hj => ?_⟩
  have := hx j (by omega)
  rw [this, List.getElem?_map, List.getElem?_eq_getElem hj]
  rfl
end

end Go.Proofs.Ytlibakmllogcdaa
