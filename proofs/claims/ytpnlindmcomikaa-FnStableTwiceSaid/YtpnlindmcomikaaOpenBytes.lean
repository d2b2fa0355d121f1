/-
  How an argument that is a slice of bytes is read. No statement is proved here.
-/
import Derived.Test.YtpnlindmcomikaaOpen
import Derived.Test.YtpnlindmcomikaaDraw
namespace Go.Proofs.Ytpnlindmcomikaa
open Go.ChangeShapes Go.WideShapes Go.ChangeAt Go.RowKit

theorem bytes_byte : Try.prog.bytesOf 5 = 1 := by kernel_rfl
set_option maxRecDepth 100000 in
/-- A slice of bytes that came in. -/
theorem read_bytes {H : Type} {enc : TypeId × Value → H} {W : World} {base : Nat} {v : Value} {d : DataW H} {p : List MemPlace} (hv : Value.okWide Try.prog W .any base 22 v)
    (h : DataW.Trod enc Try.prog W 0 (fun _ => true) true 22 v d p) : ∃ zs : List Int, SeesB W W.heap.size v zs ∧ ListOf .u8 d zs ∧ ∀ z ∈ zs, 0 ≤ z ∧ z ≤ 255 := by
  obtain ⟨a0, len0, cap0, rfl⟩ := okWide_slice Try.underlying22 hv
  have lt0 : ∀ x ∈ p, x.block < W.heap.size := by obtain ⟨m, hm⟩ := h; exact DataW.trod_lt m _ _ _ hm
  obtain ⟨fuel, hf⟩ := h
  rcases open_ints Try.underlying22 Try.underlying5 (by kernel_rfl) hf with ⟨hcs, hx⟩ | ⟨x, l, c, zs, hcs, _, hl, hm, hz, hx, hcell, hwz⟩
  · simp [Value.cells] at hcs
    obtain ⟨rfl, rfl, rfl⟩ := hcs
    simp only [Prod.mk.injEq] at hx
    exact ⟨[], ⟨by simp, none, 0, rfl, Nat.le_refl _, fun h0 => absurd h0 (by simp)⟩, .inl ⟨hx.1, rfl⟩, by simp⟩
  · simp [Value.cells] at hcs
    obtain ⟨rfl, rfl, rfl⟩ := hcs
    simp only [Prod.mk.injEq] at hx
    obtain ⟨rfl, rfl⟩ := hx
    simp only [if_true] at hz
    have hlen : (zs.take len0).length = len0 := by rw [List.length_take]; omega
    refine ⟨zs.take len0, ⟨by simp, some x, cap0, by rw [hlen], by omega, fun h0 => ?_⟩, .inr ⟨_, rfl⟩, fun z hz' => by have := hwz z (List.mem_of_mem_take hz'); simpa [Lit.wf, IntKind.min, IntKind.max, IntKind.signed, IntKind.bits] using this⟩
    rw [hlen] at h0
    obtain ⟨b, off, spot⟩ := x
    have hspot : spot = none := by simpa [Addr.add] using World.cell?_spot (hcell 0 (by omega))
    subst hspot
    refine ⟨b, off, rfl, lt0 (.cell b off) (MemPlace.mem_row.2 ⟨0, by omega, by simp⟩), fun j hj => ?_⟩
    rw [hlen] at hj
    have e := hcell j (by omega)
    rw [Addr.add_lit] at e
    rw [e, List.getElem?_map, List.getElem?_take_of_lt (by omega), List.getElem?_eq_getElem (by omega)]
    simp [List.getD, List.getElem?_eq_getElem (show j < zs.length by omega)]
set_option maxRecDepth 100000 in
/-- Within the form's reach. -/
theorem reach_bytes {H : Type} {ts : List TypeId} {ds : List (DataW H)} (h : (DataW.weightsEach Try.prog ts ds).all (· ≤ reachBytes) = true) {j : Nat} {d : DataW H} {zs : List Int}
    (ht : ts[j]? = some 22) (hd : ds[j]? = some d) (hl : ListOf .u8 d zs) : zs.length * 1 ≤ 140737488351232 := by
  rcases hl with ⟨_, rfl⟩ | ⟨sp, rfl⟩
  · simp
  · have := sized_slice h ht hd Try.underlying22
    rw [bytes_byte] at this
    simp only [lits, List.length_map, reachBytes] at this
    omega


end Go.Proofs.Ytpnlindmcomikaa
