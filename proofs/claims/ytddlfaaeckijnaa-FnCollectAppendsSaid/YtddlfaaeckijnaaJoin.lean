/-
  The contract of spec.Join: both lists, one behind the other. No statement is proved here.
-/
import Derived.Test.YtddlfaaeckijnaaBase
namespace Go.Proofs.Ytddlfaaeckijnaa
open Go.RowKit Go.Shelf

set_option maxHeartbeats 400000 in
/-- spec.Join -/
theorem join_calls (w : World) (B : Nat) (va vb : Value) (xs ys : List Int) (ha : SeesI w B va xs) (hb : SeesI w B vb ys) (hB : B ≤ w.heap.size) (hl : (xs.length + ys.length) * 8 ≤ 140737488355328) :
    Calls Try.prog 17 #[va, vb] w fun e w' => ∃ v, e = .returned v ∧ w'.ownsRow w.heap.size 3 1 v (xs ++ ys).length ((xs ++ ys).map (Value.int .i64)) ∧ Below w.heap.size w w' := by
  obtain ⟨i0, hi, hz0, hz1, hz2⟩ := info_parts Try.infoInt
  have hown0 := own_empty w w.heap.size 1 3 (Nat.le_refl _)
  have hb0 := (Below.refl w.heap.size w).alloc (Nat.le_refl _) (.cells #[] 3)
  have ha0 := (ha.more hB).below hb0
  obtain ⟨A, c, rfl, _⟩ := ha.form
  obtain ⟨A', c', rfl, _⟩ := hb.form
  go_enter Try.func17, Try.ntmps17
  go_wp2_with (first
    | (at_builtin; have _t := hown0; refine wpList_append_sees _ rfl (.tmp 5) (.tmp 6) 22 rfl w.heap.size 3 i0 (.int .i64 0) 1 8 Try.underlying22 hi hz0 hz1 hz2 rfl (by decide) (.slice (some ⟨w.heap.size, 0, none⟩) 0 0) 0 [] rfl hown0 _ _ _ _ rfl ha0 (int_cell _) (by unfold maxLen; omega) (by omega) (by simp) ?_; intro v1 w1 hown1 hg1 _ _; have hb1 := below_own hb0 hown0 hg1 (Nat.le_refl _) (by simp); have hb1' := (hb.below (hb1.mono hB)).more hB; clear hown0 hb0)
    | (at_builtin; have _t := hown1; refine wpList_append_sees _ rfl (.tmp 7) (.tmp 8) 22 rfl w.heap.size 3 i0 (.int .i64 0) 1 8 Try.underlying22 hi hz0 hz1 hz2 rfl (by decide) v1 _ _ rfl hown1 _ _ _ _ rfl hb1' (int_cell _) (by unfold maxLen; omega) (by omega) hb1.size ?_; intro v2 w2 hown2 hg2 _ _; have hb2 := below_own hb1 hown1 hg2 (Nat.le_refl _) hb1.size; clear hown1))
  go_ret
  exact ⟨v2, rfl, by simpa using hown2, hb2⟩

end Go.Proofs.Ytddlfaaeckijnaa
