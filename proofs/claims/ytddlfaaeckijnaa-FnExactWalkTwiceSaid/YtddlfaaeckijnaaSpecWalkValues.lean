/-
  The contract of spec.WalkValues: the first elements of the list, at most as many as it is told. No statement is proved here.
-/
import Derived.Test.YtddlfaaeckijnaaCut
namespace Go.Proofs.Ytddlfaaeckijnaa
open Go.RowKit Go.Shelf

set_option maxHeartbeats 400000 in
/-- spec.WalkValues -/
theorem specWalkValues_calls (w : World) (sv : Value) (zs : List Int) (most : Int) (hI : SeesI w w.heap.size sv zs) (hz : zs.length * 8 ≤ 140737488351232) :
    Calls Try.prog 24 #[sv, .int .i64 most] w fun e w' =>
      ∃ v, e = .returned v ∧ w'.ownsRow w.heap.size 3 1 v (zs.take most.toNat).length ((zs.take most.toNat).map (Value.int .i64)) ∧ Below w.heap.size w w' := by
  have hI' := hI
  obtain ⟨A, c, rfl, hc, _⟩ := hI.form
  obtain ⟨i0, hi, hz0, hz1, hz2⟩ := info_parts Try.infoInt
  go_enter Try.func24, Try.ntmps24
  have hcut := ((hI'.below ((Below.refl _ w).alloc (Nat.le_refl _) (.cells #[] 3))).cut most.toNat)
  have hl : (zs.take most.toNat).length = min zs.length most.toNat := by rw [List.length_take, Nat.min_comm]
  have Hl := Lib.hid hl
  unfold SeesI at hcut
  rw [hl] at hcut
  clear hl
  have hown0 := own_empty w w.heap.size 1 3 (Nat.le_refl _)
  go_wp2_with (first
    | (go_at_call 39; refine (cut_calls _ _ _ (by omega)).mono ?_; rintro e w' ⟨rfl, rfl⟩)
    | (at_builtin; refine wpList_append_sees _ rfl (.tmp 5) (.tmp 11) 22 rfl w.heap.size 3 i0 (.int .i64 0) 1 8 Try.underlying22 hi hz0 hz1 hz2 rfl (by decide) (.slice (some ⟨w.heap.size, 0, none⟩) 0 0) 0 [] rfl hown0 _ _ _ _ rfl hcut (int_cell _) (by unfold maxLen; omega) (by omega) (by simp) ?_; intro v' w1 hown' hgrow _ _))
  go_ret
  rw [Nat.zero_add] at hown'
  exact ⟨_, rfl, by rw [Hl.out]; exact hown', below_own ((Below.refl _ w).alloc (Nat.le_refl _) _) hown0 hgrow (Nat.le_refl _) (by simp)⟩

end Go.Proofs.Ytddlfaaeckijnaa
