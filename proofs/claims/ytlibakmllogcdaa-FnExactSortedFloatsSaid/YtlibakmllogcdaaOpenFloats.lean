/-
  How an argument that is a slice of floating-point numbers is read. No statement is proved here.
-/
import Derived.Test.YtlibakmllogcdaaOpen
import Derived.Test.YtlibakmllogcdaaFloats
import Derived.Deep.Slices
import Derived.Laws.Cover2
namespace Go.Proofs.Ytlibakmllogcdaa
open Go.ChangeShapes Go.WideShapes Go.ChangeAt Go.RowKit Go.Deep

theorem bytes_flt : Try.prog.bytesOf 32 = 8 := by kernel_rfl
/-- The datum of a list of floating-point numbers: as long as it. -/
def FloatsOf {H : Type} (d : DataW H) (ss : List Nat) : Prop := (d = .nil ∧ ss = []) ∨ ∃ elems sp, d = .slice elems sp ∧ elems.length = ss.length
theorem trod_flt {H : Type} {enc : TypeId × Value → H} {P : Program} {w : World} {base : Nat} {sp : Nat → Bool} {hd : Bool} {t : TypeId} {k : FloatKind} {fuel : Nat} {v : Value} {x : DataW H × List MemPlace} (ht : P.underlying t = some (.float k))
    (h : DataW.trod enc P w base sp hd fuel t [v] = some x) : ∃ b, v = .float k b := by
  cases fuel with
  | zero => simp [DataW.trod] at h
  | succ n =>
    simp only [DataW.trod, ht] at h
    cases v <;> simp_all
set_option maxRecDepth 100000 in
/-- A slice of floating-point numbers that came in. -/
theorem read_floats {H : Type} {enc : TypeId × Value → H} {W : World} {base : Nat} {v : Value} {d : DataW H} {p : List MemPlace} (hv : Value.okWide Try.prog W .any base 29 v)
    (h : DataW.Trod enc Try.prog W 0 (fun _ => true) true 29 v d p) : ∃ ss : List Nat, SeesF W W.heap.size v ss ∧ FloatsOf d ss := by
  obtain ⟨a0, len0, cap0, rfl⟩ := okWide_slice Try.underlying29 hv
  have lt0 : ∀ x ∈ p, x.block < W.heap.size := by obtain ⟨m, hm⟩ := h; exact DataW.trod_lt m _ _ _ hm
  obtain ⟨fuel, hf⟩ := h
  rcases open_slice1 Try.underlying29 (by kernel_rfl) hf with ⟨hcs, hx⟩ | ⟨x, l, c, m, n, V, D, Pl, hcs, _, hl, hm, hmm, hx, hcell⟩
  · simp [Value.cells] at hcs
    obtain ⟨rfl, rfl, rfl⟩ := hcs
    simp only [Prod.mk.injEq] at hx
    exact ⟨[], ⟨by simp, none, 0, rfl, Nat.le_refl _, fun h0 => absurd h0 (by simp)⟩, .inl ⟨hx.1, rfl⟩⟩
  · simp [Value.cells] at hcs
    obtain ⟨rfl, rfl, rfl⟩ := hcs
    simp only [Prod.mk.injEq] at hx
    obtain ⟨rfl, rfl⟩ := hx
    simp only [if_true] at hmm
    obtain ⟨X, hX⟩ := choose_lt (α := Nat) (n := m) (p := fun i b => V i = .float .f64 b) (fun i hi => trod_flt Try.underlying32 (hcell i hi).2)
    have hlen : ((List.range len0).map X).length = len0 := by simp
    refine ⟨(List.range len0).map X, ⟨by simp, some x, cap0, by rw [hlen], by rw [hlen]; omega, fun h0 => ?_⟩, .inr ⟨_, _, rfl, by simp⟩⟩
    rw [hlen] at h0
    obtain ⟨b, off, spot⟩ := x
    have hspot : spot = none := by simpa [Addr.add] using World.cell?_spot (hcell 0 (by omega)).1
    subst hspot
    refine ⟨b, off, rfl, lt0 (.cell b off) (List.mem_append_left _ (MemPlace.mem_row.2 ⟨0, by omega, by simp⟩)), fun j hj => ?_⟩
    rw [hlen] at hj
    have e := (hcell j (by omega)).1
    rw [hX j (by omega), Addr.add_lit] at e
    rw [e, List.getElem?_map, List.getElem?_map, List.getElem?_range (by omega)]
    rfl
set_option maxRecDepth 100000 in
/-- Within the form's reach. -/
theorem reach_floats {H : Type} {ts : List TypeId} {ds : List (DataW H)} (h : (DataW.weightsEach Try.prog ts ds).all (· ≤ reachBytes) = true) {j : Nat} {d : DataW H} {ss : List Nat}
    (ht : ts[j]? = some 29) (hd : ds[j]? = some d) (hl : FloatsOf d ss) : ss.length * 8 ≤ 140737488351232 := by
  rcases hl with ⟨_, rfl⟩ | ⟨elems, sp, rfl, hl⟩
  · simp
  · have := sized_slice h ht hd Try.underlying29
    rw [bytes_flt] at this
    simp only [reachBytes] at this
    omega

end Go.Proofs.Ytlibakmllogcdaa
