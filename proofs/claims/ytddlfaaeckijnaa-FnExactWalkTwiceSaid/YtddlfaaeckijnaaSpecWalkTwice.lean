/-
  The contract of spec.WalkTwice: the first elements, and all. No statement is proved here.
-/
import Derived.Test.YtddlfaaeckijnaaSpecWalkValues
namespace Go.Proofs.Ytddlfaaeckijnaa
open Go.RowKit Go.Shelf

set_option maxHeartbeats 400000 in
/-- spec.WalkTwice -/
theorem specWalkTwice_calls (w : World) (sv : Value) (zs : List Int) (most : Int) (hI : SeesI w w.heap.size sv zs) (hz : zs.length * 8 ≤ 140737488351232) :
    Calls Try.prog 33 #[sv, .int .i64 most] w fun e w' =>
      ∃ a b, e = .returned (.tuple #[a, b]) ∧ SeesI w' w'.heap.size a (zs.take most.toNat) ∧ SeesI w' w'.heap.size b zs ∧ Below w.heap.size w w' := by
  obtain ⟨i0, hi, hz0, hz1, hz2⟩ := info_parts Try.infoInt
  go_enter Try.func33, Try.ntmps33
  go_wp2_with fail
  refine (specWalkValues_calls w sv zs most hI hz).mono ?_
  rintro e w1 ⟨x, rfl, hx, hb1⟩
  have sx := SeesI.own hx
  clear hx
  have hown0 := own_empty w1 w1.heap.size 1 3 (Nat.le_refl _)
  have hb0 := (Below.refl w1.heap.size w1).alloc (Nat.le_refl _) (.cells #[] 3)
  have ha0 := ((hI.below hb1).more hb1.size).below hb0
  obtain ⟨A, c, rfl, _⟩ := hI.form
  go_wp2_with (at_builtin; refine wpList_append_sees _ rfl (.tmp 9) (.tmp 10) 22 rfl w1.heap.size 3 i0 (.int .i64 0) 1 8 Try.underlying22 hi hz0 hz1 hz2 rfl (by decide) (.slice (some ⟨w1.heap.size, 0, none⟩) 0 0) 0 [] rfl hown0 _ _ _ _ rfl ha0 (int_cell _) (by unfold maxLen; omega) (by omega) (by simp) ?_; intro v2 w2 hown2 hg2 _ _; have hb2 := below_own hb0 hown0 hg2 (Nat.le_refl _) (by simp); clear hown0 hb0)
  rw [Nat.zero_add, List.nil_append] at hown2
  go_ret2
  exact ⟨_, _, rfl, (sx.below hb2).more hb2.size, SeesI.own hown2, hb1.trans (hb2.mono hb1.size)⟩

end Go.Proofs.Ytddlfaaeckijnaa
