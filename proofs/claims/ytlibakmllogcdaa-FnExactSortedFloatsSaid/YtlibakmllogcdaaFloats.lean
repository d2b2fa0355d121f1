/-
  Slices of floating-point numbers and of 64-bit words that are seen. No statement is proved here.
-/
import Derived.Test.YtlibakmllogcdaaBase
namespace Go.Proofs.Ytlibakmllogcdaa
open Go.RowKit Go.Shelf

theorem Try.infoFlt : (Try.prog.info? 32).map (fun i => (i.zero, i.size, i.bytes)) = some (some (.float .f64 0), 1, 8) := by kernel_rfl
theorem Try.infoU64 : (Try.prog.info? 50).map (fun i => (i.zero, i.size, i.bytes)) = some (some (.int .u64 0), 1, 8) := by kernel_rfl
theorem flt_cell (xs : List Nat) : ∀ u ∈ xs.map (Value.float .f64), u.oneCell' = true := by
  intro u hu
  obtain ⟨s, _, rfl⟩ := List.mem_map.1 hu
  rfl
theorem u64_cell (xs : List Int) : ∀ u ∈ xs.map (Value.int .u64), u.oneCell' = true := by
  intro u hu
  obtain ⟨s, _, rfl⟩ := List.mem_map.1 hu
  rfl
theorem take_snoc_getDF (xs : List Nat) {k : Nat} (h : k < xs.length) : xs.take (k + 1) = xs.take k ++ [xs[k]?.getD 0] := by
  rw [List.take_succ_eq_append_getElem h, List.getElem?_eq_getElem h]
  rfl
theorem own_flt {w : World} {base g c : Nat} {e : TypeId} {zs : List Nat} (h : w.ownsRow base e 1 (.slice (some ⟨g, 0, none⟩) zs.length c) zs.length (zs.map (Value.float .f64))) (k : Nat) (hk : k < zs.length) : w.cell? ⟨g, k, none⟩ = some (.float .f64 (zs[k]?.getD 0)) := by
  rw [h.cellAt k (by omega), List.getElem?_map, List.getElem?_eq_getElem hk]
  rfl
theorem own_u64 {w : World} {base g c : Nat} {e : TypeId} {zs : List Int} (h : w.ownsRow base e 1 (.slice (some ⟨g, 0, none⟩) zs.length c) zs.length (zs.map (Value.int .u64))) (k : Nat) (hk : k < zs.length) : w.cell? ⟨g, k, none⟩ = some (.int .u64 (zs[k]?.getD 0)) := by
  rw [h.cellAt k (by omega), List.getElem?_map, List.getElem?_eq_getElem hk]
  rfl

/-- A slice that shows floating-point numbers, by their bits. -/
def SeesF (w : World) (B : Nat) (v : Value) (zs : List Nat) : Prop := Sees w B 1 v zs.length (zs.map (Value.float .f64))
/-- A slice that shows words. -/
def SeesU (w : World) (B : Nat) (v : Value) (zs : List Int) : Prop := Sees w B 1 v zs.length (zs.map (Value.int .u64))
section
variable {w w' : World} {B B' : Nat} {v : Value}
theorem SeesF.below {zs : List Nat} (h : SeesF w B v zs) (hb : Below B w w') : SeesF w' B v zs := Sees.below h hb
theorem SeesF.more {zs : List Nat} (h : SeesF w B v zs) (hB : B ≤ B') : SeesF w B' v zs := Sees.more h hB
theorem SeesF.drewN {zs : List Nat} (h : SeesF w B v zs) (k : Nat) : SeesF (w.drewN k) B v zs := Sees.drewN h k
theorem SeesF.own {zs : List Nat} {base : Nat} {e : TypeId} (h : w.ownsRow base e 1 v zs.length (zs.map (Value.float .f64))) : SeesF w w.heap.size v zs := Sees.own h
theorem SeesF.form {zs : List Nat} (h : SeesF w B v zs) : ∃ A c, v = .slice A zs.length c ∧ zs.length ≤ c ∧
    (0 < zs.length → ∃ b off, A = some ⟨b, off, none⟩ ∧ b < B ∧ ∀ j, j < zs.length → w.cell? ⟨b, off + j, none⟩ = some (.float .f64 (zs[j]?.getD 0))) := by
  obtain ⟨_, A, c, e, hc, hs⟩ := h
  refine ⟨A, c, e, hc, fun h0 => ?_⟩
  obtain ⟨b, off, hA, hb, hx⟩ := hs (by omega)
  refine ⟨b, off, hA, hb, fun j hj => ?_⟩
  have := hx j (by omega)
  rw [this, List.getElem?_map, List.getElem?_eq_getElem hj]
  rfl
theorem SeesU.below {zs : List Int} (h : SeesU w B v zs) (hb : Below B w w') : SeesU w' B v zs := Sees.below h hb
theorem SeesU.more {zs : List Int} (h : SeesU w B v zs) (hB : B ≤ B') : SeesU w B' v zs := Sees.more h hB
theorem SeesU.drewN {zs : List Int} (h : SeesU w B v zs) (k : Nat) : SeesU (w.drewN k) B v zs := Sees.drewN h k
theorem SeesU.own {zs : List Int} {base : Nat} {e : TypeId} (h : w.ownsRow base e 1 v zs.length (zs.map (Value.int .u64))) : SeesU w w.heap.size v zs := Sees.own h
theorem SeesU.form {zs : List Int} (h : SeesU w B v zs) : ∃ A c, v = .slice A zs.length c ∧ zs.length ≤ c ∧
    (0 < zs.length → ∃ b off, A = some ⟨b, off, none⟩ ∧ b < B ∧ ∀ j, j < zs.length → w.cell? ⟨b, off + j, none⟩ = some (.int .u64 (zs[j]?.getD 0))) := by
  obtain ⟨_, A, c, e, hc, hs⟩ := h
  refine ⟨A, c, e, hc, fun h0 => ?_⟩
  obtain ⟨b, off, hA, hb, hx⟩ := hs (by omega)
  refine ⟨b, off, hA, hb, fun j hj => ?_⟩
  have := hx j (by omega)
  rw [this, List.getElem?_map, List.getElem?_eq_getElem hj]
  rfl
end

end Go.Proofs.Ytlibakmllogcdaa
