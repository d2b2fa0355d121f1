/-
  How an argument that is a slice of slices of ints is read. No statement is proved here.
-/
import Derived.Test.YtmfmpfcgllpflaaOpen
import Derived.Test.YtmfmpfcgllpflaaLists
import Derived.Deep.Matrix
namespace Go.Proofs.Ytmfmpfcgllpflaa
open Go.ChangeShapes Go.WideShapes Go.ChangeAt Go.RowKit Go.Deep

/-- The datum of a list of lists: of a bulk that is at least as many numbers and lists. -/
def ListsOf {H : Type} (d : DataW H) (L : List (List Int)) : Prop := (flat L).length + L.length ≤ Rows.uptoBulk d
theorem bulk_rows {H : Type} (f : Nat → DataW H) (g : Nat → List Int) : ∀ (l : List Nat), (∀ r ∈ l, (g r).length + 1 ≤ Rows.uptoBulk (f r)) → (l.map g).flatten.length + l.length ≤ Rows.uptoBulkAll (l.map f)
  | [], _ => by simp [Rows.uptoBulkAll]
  | r :: l, h => by
    have h1 := bulk_rows f g l (fun x hx => h x (List.mem_cons_of_mem _ hx))
    have h2 := h r List.mem_cons_self
    simp only [List.map_cons, List.flatten_cons, List.length_append, List.length_cons, Rows.uptoBulkAll]
    omega
theorem bulk_lits {H : Type} (k : IntKind) (zs : List Int) : zs.length ≤ Rows.uptoBulkAll (lits (H := H) k zs) := by
  have := bulk_length (lits (H := H) k zs)
  simpa [lits] using this
set_option maxRecDepth 100000 in
/-- A slice of slices of ints that came in. -/
theorem read_lists {H : Type} {enc : TypeId × Value → H} {W : World} {base : Nat} {v : Value} {d : DataW H} {p : List MemPlace} (hv : Value.okWide Try.prog W .any base 22 v)
    (h : DataW.Trod enc Try.prog W 0 (fun _ => true) true 22 v d p) : ∃ L : List (List Int), SeesL W W.heap.size v L ∧ ListsOf d L ∧ ∀ l ∈ L, ∀ z ∈ l, (Lit.int .i64 z).wf = true := by
  obtain ⟨a0, len0, cap0, rfl⟩ := okWide_slice Try.underlying22 hv
  have lt0 : ∀ x ∈ p, x.block < W.heap.size := by obtain ⟨m, hm⟩ := h; exact DataW.trod_lt m _ _ _ hm
  obtain ⟨fuel, hf⟩ := h
  rcases open_int_rows Try.underlying22 Try.underlying23 Try.underlying3 (by kernel_rfl) (by kernel_rfl) hf with ⟨hcs, hx⟩ | ⟨x, l, c, A, Ln, C, Z, hcs, _, hl, hm, hx, hcell⟩
  · simp [Value.cells] at hcs
    obtain ⟨rfl, rfl, rfl⟩ := hcs
    simp only [Prod.mk.injEq] at hx
    exact ⟨[], ⟨[], ⟨rfl, none, 0, rfl, Nat.le_refl _, fun h0 => absurd h0 (by simp)⟩, fun i hi => absurd hi (by simp)⟩, by simp [ListsOf, flat], by simp⟩
  · simp [Value.cells] at hcs
    obtain ⟨rfl, rfl, rfl⟩ := hcs
    simp only [Prod.mk.injEq] at hx
    obtain ⟨rfl, rfl⟩ := hx
    have hlen : ((List.range len0).map fun r => (Z r).take (Ln r)).length = len0 := by simp
    refine ⟨(List.range len0).map fun r => (Z r).take (Ln r), ⟨(List.range len0).map fun r => .slice (A r) (Ln r) (C r), ⟨by simp, some x, cap0, by rw [hlen], by rw [hlen]; omega, fun h0 => ?_⟩, fun i hi => ?_⟩, ?_, ?_⟩
    · rw [hlen] at h0
      obtain ⟨b, off, spot⟩ := x
      have hspot : spot = none := by simpa [Addr.add] using World.cell?_spot (hcell 0 (by omega)).1
      subst hspot
      refine ⟨b, off, rfl, lt0 (.cell b off) (List.mem_append_left _ (MemPlace.mem_row.2 ⟨0, by omega, by simp⟩)), fun j hj => ?_⟩
      rw [hlen] at hj
      have hc := (hcell j (by omega)).1
      rw [Addr.add_lit] at hc
      rw [hc, List.getElem?_map, List.getElem?_range (by omega)]
      rfl
    · rw [hlen] at hi
      refine ⟨_, by rw [List.getElem?_map, List.getElem?_range hi]; rfl, ?_⟩
      obtain ⟨hc, h1, h2, h3, h4, h5, h6⟩ := hcell i (by omega)
      simp only [List.getElem_map, List.getElem_range]
      have hzl : ((Z i).take (Ln i)).length = Ln i := by rw [List.length_take]; omega
      refine ⟨by rw [hzl]; simp; omega, A i, C i, by rw [hzl], by rw [hzl]; exact h1, fun h0 => ?_⟩
      rw [hzl] at h0
      cases hA : A i with
      | none => have := h5 hA; omega
      | some a' =>
        obtain ⟨_, hx'⟩ := h6 a' hA
        obtain ⟨b', off', spot'⟩ := a'
        have hspot : spot' = none := by simpa [Addr.add] using World.cell?_spot (hx' 0 (by omega))
        subst hspot
        refine ⟨b', off', rfl, lt0 (.cell b' off') (List.mem_append_right _ (List.mem_flatMap.2 ⟨i, List.mem_range.2 (by omega), ?_⟩)), fun j hj => ?_⟩
        · simp only [intRowPlaces, hA]
          exact MemPlace.mem_row.2 ⟨0, by omega, by simp⟩
        · rw [hzl, Nat.mul_one] at hj
          have := hx' j (by omega)
          rw [Addr.add_lit] at this
          rw [this, List.getElem?_map, List.getElem?_take_of_lt hj, List.getElem?_eq_getElem (by omega), List.getD_eq_getElem?_getD, List.getElem?_eq_getElem (by omega)]
          rfl
    · unfold ListsOf flat
      simp only [Rows.uptoBulk]
      have := bulk_rows (fun r => intRow .i64 (A r) (Ln r) (Z r)) (fun r => (Z r).take (Ln r)) (List.range len0) (fun r hr => by
        have hr' := List.mem_range.1 hr
        obtain ⟨_, h1, _, h3, _, h5, _⟩ := hcell r (by omega)
        cases hA : A r with
        | none => have := h5 hA; simp only [intRow, Rows.uptoBulk]; rw [List.length_take]; omega
        | some a' => simp only [intRow, Rows.uptoBulk]; have := bulk_lits (H := H) .i64 ((Z r).take (Ln r)); omega)
      simp only [List.length_range] at this
      rw [hlen]
      omega
    · intro l hl z hz
      obtain ⟨r, hr, rfl⟩ := List.mem_map.1 hl
      have hr' := List.mem_range.1 hr
      exact (hcell r (by omega)).2.2.2.2.1 z (List.mem_of_mem_take hz)
theorem small_lists {H : Type} {ds : List (DataW H)} (hk : Rows.uptoSmall H ds = true) {j : Nat} {d : DataW H} {L : List (List Int)} (hd : ds[j]? = some d) (hl : ListsOf d L) : (flat L).length + L.length ≤ 1048576 :=
  Nat.le_trans hl (Nat.le_trans (bulk_part (List.mem_of_getElem? hd)) (bulk_bound hk))

end Go.Proofs.Ytmfmpfcgllpflaa
