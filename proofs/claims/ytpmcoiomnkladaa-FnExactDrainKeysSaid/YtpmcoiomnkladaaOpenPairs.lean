/-
  How an argument that is a slice of pairs is read. No statement is proved here.
-/
import Derived.Test.YtpmcoiomnkladaaOpen
import Derived.Test.YtpmcoiomnkladaaPairs
import Derived.Deep.SlicePairs
namespace Go.Proofs.Ytpmcoiomnkladaa
open Go.ChangeShapes Go.WideShapes Go.ChangeAt Go.RowKit Go.Deep

theorem bytes_pair : Try.prog.bytesOf 40 = 16 := by kernel_rfl
/-- The datum of a list of pairs: as long as it. -/
def PairsOf {H : Type} (d : DataW H) (ps : List (Int × Int)) : Prop := (d = .nil ∧ ps = []) ∨ ∃ elems sp, d = .slice elems sp ∧ elems.length = ps.length
set_option maxRecDepth 100000 in
/-- A slice of pairs that came in. -/
theorem read_pairs {H : Type} {enc : TypeId × Value → H} {W : World} {base : Nat} {v : Value} {d : DataW H} {p : List MemPlace} (hv : Value.okWide Try.prog W .any base 22 v)
    (h : DataW.Trod enc Try.prog W 0 (fun _ => true) true 22 v d p) : ∃ ps : List (Int × Int), SeesP W W.heap.size v ps ∧ PairsOf d ps ∧ ∀ q ∈ ps, (Lit.int .i64 q.1).wf = true ∧ (Lit.int .i64 q.2).wf = true := by
  obtain ⟨a0, len0, cap0, rfl⟩ := okWide_slice Try.underlying22 hv
  have lt0 : ∀ x ∈ p, x.block < W.heap.size := by obtain ⟨m, hm⟩ := h; exact DataW.trod_lt m _ _ _ hm
  obtain ⟨fuel, hf⟩ := h
  rcases open_slice_pairs Try.underlying22 Try.underlying40 (by kernel_rfl) rfl rfl (by kernel_rfl) (by kernel_rfl) hf with ⟨hcs, hx⟩ | ⟨x, l, c, m, n, V0, V1, D0, D1, P0, P1, hcs, _, hl, hm, hmm, hx, hcell⟩
  · simp [Value.cells] at hcs
    obtain ⟨rfl, rfl, rfl⟩ := hcs
    simp only [Prod.mk.injEq] at hx
    exact ⟨[], ⟨by simp [pcells], none, 0, rfl, Nat.le_refl _, fun h0 => absurd h0 (by simp)⟩, .inl ⟨hx.1, rfl⟩, by simp⟩
  · simp [Value.cells] at hcs
    obtain ⟨rfl, rfl, rfl⟩ := hcs
    simp only [Prod.mk.injEq] at hx
    obtain ⟨rfl, rfl⟩ := hx
    simp only [if_true] at hmm
    have hint : ∀ i, i < m → V0 i = .int .i64 (intOf (V0 i)) ∧ V1 i = .int .i64 (intOf (V1 i)) ∧ (Lit.int .i64 (intOf (V0 i))).wf = true ∧ (Lit.int .i64 (intOf (V1 i))).wf = true := by
      intro i hi
      obtain ⟨_, _, h0, h1⟩ := hcell i hi
      obtain ⟨n0, e0, _, w0⟩ := DataW.trod_int Try.underlying3 h0
      obtain ⟨n1, e1, _, w1⟩ := DataW.trod_int Try.underlying3 h1
      simp only [List.cons.injEq, and_true] at e0 e1
      rw [e0, e1]
      exact ⟨rfl, rfl, w0, w1⟩
    have hlen : ((List.range len0).map fun i => (intOf (V0 i), intOf (V1 i))).length = len0 := by simp
    refine ⟨(List.range len0).map fun i => (intOf (V0 i), intOf (V1 i)), ⟨by rw [pcells_length], some x, cap0, by rw [hlen], by rw [hlen]; omega, fun h0 => ?_⟩, .inr ⟨_, _, rfl, by simp⟩, fun q hq => ?_⟩
    · rw [hlen] at h0
      obtain ⟨b, off, spot⟩ := x
      have hspot : spot = none := by simpa [Addr.add] using World.cell?_spot (hcell 0 (by omega)).1
      subst hspot
      refine ⟨b, off, rfl, lt0 (.cell b off) (List.mem_append_left _ (MemPlace.mem_row.2 ⟨0, by omega, by simp⟩)), fun j hj => ?_⟩
      rw [hlen] at hj
      have hi : j / 2 < len0 := by omega
      have hg := pcells_get ((List.range len0).map fun i => (intOf (V0 i), intOf (V1 i))) (j / 2) (by rw [hlen]; exact hi)
      simp only [List.getElem_map, List.getElem_range] at hg
      obtain ⟨c0, c1, _, _⟩ := hcell (j / 2) (by omega)
      obtain ⟨e0, e1, _, _⟩ := hint (j / 2) (by omega)
      rw [Addr.add_lit] at c0 c1
      rcases Nat.mod_two_eq_zero_or_one j with hj2 | hj2
      · rw [show j / 2 * 2 = j by omega] at c0 hg
        rw [c0, hg.1, e0]
        rfl
      · rw [show j / 2 * 2 + 1 = j by omega] at c1 hg
        rw [c1, hg.2, e1]
        rfl
    · obtain ⟨i, hi, rfl⟩ := List.mem_map.1 hq
      have := hint i (by have := List.mem_range.1 hi; omega)
      exact this.2.2
set_option maxRecDepth 100000 in
/-- Within the form's reach. -/
theorem reach_pairs {H : Type} {ts : List TypeId} {ds : List (DataW H)} (h : (DataW.weightsEach Try.prog ts ds).all (· ≤ reachBytes) = true) {j : Nat} {d : DataW H} {ps : List (Int × Int)}
    (ht : ts[j]? = some 22) (hd : ds[j]? = some d) (hl : PairsOf d ps) : ps.length * 16 ≤ 140737488351232 := by
  rcases hl with ⟨_, rfl⟩ | ⟨elems, sp, rfl, e⟩
  · simp
  · have := sized_slice h ht hd Try.underlying22
    rw [bytes_pair] at this
    simp only [reachBytes] at this
    omega
theorem small_pairs {H : Type} {ds : List (DataW H)} (hk : Rows.uptoSmall H ds = true) {j : Nat} {d : DataW H} {ps : List (Int × Int)} (hd : ds[j]? = some d) (hl : PairsOf d ps) : ps.length ≤ 1048576 := by
  refine Nat.le_trans ?_ (Nat.le_trans (bulk_part (List.mem_of_getElem? hd)) (bulk_bound hk))
  rcases hl with ⟨_, rfl⟩ | ⟨elems, sp, rfl, e⟩
  · simp
  · have := bulk_length elems
    simp only [Rows.uptoBulk]
    omega

end Go.Proofs.Ytpmcoiomnkladaa
