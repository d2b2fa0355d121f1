/-
  How an argument that is a slice of strings is read. No statement is proved here.
-/
import Derived.Test.YtlibakmllogcdaaOpen
import Derived.Test.YtlibakmllogcdaaTexts
import Derived.Deep.Strs
namespace Go.Proofs.Ytlibakmllogcdaa
open Go.ChangeShapes Go.WideShapes Go.ChangeAt Go.RowKit Go.Deep

theorem bytes_str : Try.prog.bytesOf 9 = 16 := by kernel_rfl
/-- The datum of a list of texts: as long as it. -/
def TextsOf {H : Type} (d : DataW H) (ss : List (List UInt8)) : Prop := (d = .nil ∧ ss = []) ∨ ∃ elems sp, d = .slice elems sp ∧ elems.length = ss.length
set_option maxRecDepth 100000 in
/-- A slice of strings that came in. -/
theorem read_texts {H : Type} {enc : TypeId × Value → H} {W : World} {base : Nat} {v : Value} {d : DataW H} {p : List MemPlace} (hv : Value.okWide Try.prog W .any base 22 v)
    (h : DataW.Trod enc Try.prog W 0 (fun _ => true) true 22 v d p) : ∃ ss : List (List UInt8), SeesT W W.heap.size v ss ∧ TextsOf d ss ∧ ∀ s ∈ ss, s.length ≤ 9223372036854775807 := by
  obtain ⟨a0, len0, cap0, rfl⟩ := okWide_slice Try.underlying22 hv
  have lt0 : ∀ x ∈ p, x.block < W.heap.size := by obtain ⟨m, hm⟩ := h; exact DataW.trod_lt m _ _ _ hm
  obtain ⟨fuel, hf⟩ := h
  rcases open_strs Try.underlying22 Try.underlying9 (by kernel_rfl) hf with ⟨hcs, hx⟩ | ⟨x, l, c, m, Sx, hcs, _, hl, hm, hmm, hx, hcell⟩
  · simp [Value.cells] at hcs
    obtain ⟨rfl, rfl, rfl⟩ := hcs
    simp only [Prod.mk.injEq] at hx
    exact ⟨[], ⟨by simp, none, 0, rfl, Nat.le_refl _, fun h0 => absurd h0 (by simp)⟩, .inl ⟨hx.1, rfl⟩, by simp⟩
  · simp [Value.cells] at hcs
    obtain ⟨rfl, rfl, rfl⟩ := hcs
    simp only [Prod.mk.injEq] at hx
    obtain ⟨rfl, rfl⟩ := hx
    simp only [if_true] at hmm
    have hlen : ((List.range len0).map fun i => (Sx i).data.toList).length = len0 := by simp
    refine ⟨(List.range len0).map fun i => (Sx i).data.toList, ⟨by simp, some x, cap0, by rw [hlen], by rw [hlen]; omega, fun h0 => ?_⟩, .inr ⟨_, _, rfl, by simp⟩, fun s hs => ?_⟩
    · rw [hlen] at h0
      obtain ⟨b, off, spot⟩ := x
      have hspot : spot = none := by simpa [Addr.add] using World.cell?_spot (hcell 0 (by omega)).1
      subst hspot
      refine ⟨b, off, rfl, lt0 (.cell b off) (MemPlace.mem_row.2 ⟨0, by omega, by simp⟩), fun j hj => ?_⟩
      rw [hlen] at hj
      have e := (hcell j (by omega)).1
      rw [Addr.add_lit] at e
      rw [e, List.getElem?_map, List.getElem?_map, List.getElem?_range (by omega)]
      simp [encStr]
    · obtain ⟨i, hi, rfl⟩ := List.mem_map.1 hs
      have := (hcell i (by have := List.mem_range.1 hi; omega)).2
      have hM : maxLen = 9223372036854775807 := by unfold maxLen; omega
      rw [hM] at this
      show (Sx i).data.toList.length ≤ 9223372036854775807
      rw [Array.length_toList]
      exact this
set_option maxRecDepth 100000 in
/-- Within the form's reach. -/
theorem reach_texts {H : Type} {ts : List TypeId} {ds : List (DataW H)} (h : (DataW.weightsEach Try.prog ts ds).all (· ≤ reachBytes) = true) {j : Nat} {d : DataW H} {ss : List (List UInt8)}
    (ht : ts[j]? = some 22) (hd : ds[j]? = some d) (hl : TextsOf d ss) : ss.length * 16 ≤ 140737488351232 := by
  rcases hl with ⟨_, rfl⟩ | ⟨elems, sp, rfl, hl⟩
  · simp
  · have := sized_slice h ht hd Try.underlying22
    rw [bytes_str] at this
    simp only [reachBytes] at this
    omega

end Go.Proofs.Ytlibakmllogcdaa
