/-
  How the arguments of a law are read: from the form's reading of an argument to what the walks speak of. No statement is proved here.
-/
import Derived.Test.YtlibakmllogcdaaBase
import Derived.ProofKit
import Derived.OpenShut
import Derived.SizedLaws
import Derived.JoinedCond
import Derived.ChangeOld
namespace Go.Proofs.Ytlibakmllogcdaa
open Go.ChangeShapes Go.WideShapes Go.ChangeAt Go.RowKit

theorem ownKnob_none : ownKnob Try.prog.godebug = none := by kernel_rfl
theorem laidOut_yes : laidOutB Try.prog = true := by kernel_rfl

/-- The datum of a list of integers. -/
def ListOf {H : Type} (k : IntKind) (d : DataW H) (zs : List Int) : Prop := (d = .nil ∧ zs = []) ∨ ∃ sp, d = .slice (lits k zs) sp

theorem bytes_int : Try.prog.bytesOf 3 = 8 := by kernel_rfl
set_option maxRecDepth 100000 in
/-- A slice of ints that came in. -/
theorem read_ints {H : Type} {enc : TypeId × Value → H} {W : World} {base : Nat} {v : Value} {d : DataW H} {p : List MemPlace} (hv : Value.okWide Try.prog W .any base 45 v)
    (h : DataW.Trod enc Try.prog W 0 (fun _ => true) true 45 v d p) : ∃ zs : List Int, SeesI W W.heap.size v zs ∧ ListOf .i64 d zs ∧ ∀ z ∈ zs, (Lit.int .i64 z).wf = true := by
  obtain ⟨a0, len0, cap0, rfl⟩ := okWide_slice Try.underlying45 hv
  have lt0 : ∀ x ∈ p, x.block < W.heap.size := by obtain ⟨m, hm⟩ := h; exact DataW.trod_lt m _ _ _ hm
  obtain ⟨fuel, hf⟩ := h
  rcases open_ints Try.underlying45 Try.underlying3 (by kernel_rfl) hf with ⟨hcs, hx⟩ | ⟨x, l, c, zs, hcs, _, hl, hm, hz, hx, hcell, hwz⟩
  · simp [Value.cells] at hcs
    obtain ⟨rfl, rfl, rfl⟩ := hcs
    simp only [Prod.mk.injEq] at hx
    exact ⟨[], ⟨by simp, none, 0, rfl, Nat.le_refl _, fun h0 => absurd h0 (by simp)⟩, .inl ⟨hx.1, rfl⟩, by simp⟩
  · simp [Value.cells] at hcs
    obtain ⟨rfl, rfl, rfl⟩ := hcs
    simp only [Prod.mk.injEq] at hx
    obtain ⟨rfl, rfl⟩ := hx
    simp only [if_true] at hz
    have hlen : (zs.take len0).length = len0 := by rw [List.length_take]; omega
    refine ⟨zs.take len0, ⟨by simp, some x, cap0, by rw [hlen], by omega, fun h0 => ?_⟩, .inr ⟨_, rfl⟩, fun z hz' => hwz z (List.mem_of_mem_take hz')⟩
    rw [hlen] at h0
    obtain ⟨b, off, spot⟩ := x
    have hspot : spot = none := by simpa [Addr.add] using World.cell?_spot (hcell 0 (by omega))
    subst hspot
    refine ⟨b, off, rfl, lt0 (.cell b off) (MemPlace.mem_row.2 ⟨0, by omega, by simp⟩), fun j hj => ?_⟩
    rw [hlen] at hj
    have e := hcell j (by omega)
    rw [Addr.add_lit] at e
    rw [e, List.getElem?_map, List.getElem?_take_of_lt (by omega), List.getElem?_eq_getElem (by omega)]
    simp [List.getD, List.getElem?_eq_getElem (show j < zs.length by omega)]
set_option maxRecDepth 100000 in
/-- Within the form's reach. -/
theorem reach_ints {H : Type} {ts : List TypeId} {ds : List (DataW H)} (h : (DataW.weightsEach Try.prog ts ds).all (· ≤ reachBytes) = true) {j : Nat} {d : DataW H} {zs : List Int}
    (ht : ts[j]? = some 45) (hd : ds[j]? = some d) (hl : ListOf .i64 d zs) : zs.length * 8 ≤ 140737488351232 := by
  rcases hl with ⟨_, rfl⟩ | ⟨sp, rfl⟩
  · simp
  · have := sized_slice h ht hd Try.underlying45
    rw [bytes_int] at this
    simp only [lits, List.length_map, reachBytes] at this
    omega

/-- One value's bulk is one at least. -/
theorem bulk_one {H : Type} (d : DataW H) : 1 ≤ Rows.uptoBulk d := by
  cases d with
  | lit l => cases l <;> simp [Rows.uptoBulk]
  | nil => simp [Rows.uptoBulk]
  | ptr d => simp [Rows.uptoBulk]
  | slice elems spare => simp [Rows.uptoBulk]
  | agg parts => simp [Rows.uptoBulk]
  | iface t d => simp [Rows.uptoBulk]
  | map entries => simp [Rows.uptoBulk]
  | held h => simp [Rows.uptoBulk]
theorem bulk_part {H : Type} {d : DataW H} {l : List (DataW H)} (h : d ∈ l) : Rows.uptoBulk d ≤ Rows.uptoBulkAll l := by
  induction l with
  | nil => cases h
  | cons x r ih =>
    simp only [Rows.uptoBulkAll]
    rcases List.mem_cons.1 h with e | e
    · subst e; omega
    · have := ih e; omega
theorem bulk_length {H : Type} (l : List (DataW H)) : l.length ≤ Rows.uptoBulkAll l := by
  induction l with
  | nil => simp [Rows.uptoBulkAll]
  | cons x r ih => have := bulk_one x; simp only [Rows.uptoBulkAll, List.length_cons]; omega
theorem bulk_bound {H : Type} {l : List (DataW H)} (hk : Rows.uptoSmall H l = true) : Rows.uptoBulkAll l ≤ 1048576 := of_decide_eq_true hk
/-- A list of so many elements is of that bulk at least. -/
theorem bulk_list {H : Type} {k : IntKind} {d : DataW H} {zs : List Int} (hl : ListOf k d zs) : zs.length ≤ Rows.uptoBulk d := by
  rcases hl with ⟨_, rfl⟩ | ⟨sp, rfl⟩
  · simp
  · have := bulk_length (lits (H := H) k zs)
    simp only [lits, List.length_map] at this
    simp only [Rows.uptoBulk, lits]
    omega
theorem small_ints {H : Type} {ds : List (DataW H)} (hk : Rows.uptoSmall H ds = true) {j : Nat} {k : IntKind} {d : DataW H} {zs : List Int} (hd : ds[j]? = some d) (hl : ListOf k d zs) : zs.length ≤ 1048576 :=
  Nat.le_trans (bulk_list hl) (Nat.le_trans (bulk_part (List.mem_of_getElem? hd)) (bulk_bound hk))

end Go.Proofs.Ytlibakmllogcdaa
