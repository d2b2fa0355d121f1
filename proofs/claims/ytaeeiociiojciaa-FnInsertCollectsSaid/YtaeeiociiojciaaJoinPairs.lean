/-
  The contract of spec.JoinPairs: both lists, one behind the other. No statement is proved here.
-/
import Derived.Test.YtaeeiociiojciaaPairs
namespace Go.Proofs.Ytaeeiociiojciaa
open Go.RowKit Go.Shelf

set_option maxHeartbeats 400000 in
/-- spec.JoinPairs -/
theorem joinPairs_calls (w : World) (B : Nat) (va vb : Value) (xs ys : List (Int × Int)) (ha : SeesP w B va xs) (hb : SeesP w B vb ys) (hB : B ≤ w.heap.size) (hl : (xs.length + ys.length) * 16 ≤ 140737488355328) :
    Calls Try.prog 21 #[va, vb] w fun e w' => ∃ v, e = .returned v ∧ w'.ownsRow w.heap.size 36 2 v (xs ++ ys).length (pcells (xs ++ ys)) ∧ Below w.heap.size w w' := by
  obtain ⟨i0, hi, hz0, hz1, hz2⟩ := info_parts Try.infoPair
  have hown0 := own_empty w w.heap.size 2 36 (Nat.le_refl _)
  have hb0 := (Below.refl w.heap.size w).alloc (Nat.le_refl _) (.cells #[] 36)
  have ha0 := (ha.more hB).below hb0
  obtain ⟨A, c, rfl, _⟩ := ha.form
  obtain ⟨A', c', rfl, _⟩ := hb.form
  go_enter Try.func21, Try.ntmps21
  go_wp2_with (first
    | (at_builtin; have _t := hown0; refine wpList_append_sees _ rfl (.tmp 5) (.tmp 6) 24 rfl w.heap.size 36 i0 (.agg #[.int .i64 0, .int .i64 0]) 2 16 Try.underlying24 hi hz0 hz1 hz2 rfl (by decide) (.slice (some ⟨w.heap.size, 0, none⟩) 0 0) 0 [] rfl hown0 _ _ _ _ rfl ha0 (pcells_cell _) (by unfold maxLen; omega) (by omega) (by simp) ?_; intro v1 w1 hown1 hg1 _ _; have hb1 := below_own hb0 hown0 hg1 (Nat.le_refl _) (by simp); have hb1' := (hb.below (hb1.mono hB)).more hB; clear hown0 hb0)
    | (at_builtin; have _t := hown1; refine wpList_append_sees _ rfl (.tmp 7) (.tmp 8) 24 rfl w.heap.size 36 i0 (.agg #[.int .i64 0, .int .i64 0]) 2 16 Try.underlying24 hi hz0 hz1 hz2 rfl (by decide) v1 _ _ rfl hown1 _ _ _ _ rfl hb1' (pcells_cell _) (by unfold maxLen; omega) (by omega) hb1.size ?_; intro v2 w2 hown2 hg2 _ _; have hb2 := below_own hb1 hown1 hg2 (Nat.le_refl _) hb1.size; clear hown1))
  go_ret
  exact ⟨v2, rfl, by rw [pcells_append, List.length_append]; simpa using hown2, hb2⟩

end Go.Proofs.Ytaeeiociiojciaa
