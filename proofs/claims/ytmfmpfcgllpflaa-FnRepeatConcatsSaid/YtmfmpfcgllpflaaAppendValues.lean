/-
  The contract of impl.AppendValues: both lists, one behind the other. No statement is proved here.
-/
import Derived.Test.YtmfmpfcgllpflaaAppendSeq
import Derived.Test.YtmfmpfcgllpflaaValues
namespace Go.Proofs.Ytmfmpfcgllpflaa
open Go.RowKit Go.Shelf

set_option maxHeartbeats 400000 in
/-- impl.AppendValues -/
theorem appendValues_calls (w : World) (va vb : Value) (xs ys : List Int) (ha : SeesI w w.heap.size va xs) (hb : SeesI w w.heap.size vb ys) (hl : (xs.length + ys.length) * 8 ≤ 140737488355328) :
    Calls Try.prog 24 #[va, vb] w fun e w' => ∃ v, e = .returned v ∧ w'.ownsRow w.heap.size 3 1 v (xs ++ ys).length ((xs ++ ys).map (Value.int .i64)) ∧ Below w.heap.size w w' := by
  obtain ⟨i0, hi, hz0, hz1, hz2⟩ := info_parts Try.infoInt
  have hown0 := own_empty w w.heap.size 1 3 (Nat.le_refl _)
  have hb0 := (Below.refl w.heap.size w).alloc (Nat.le_refl _) (.cells #[] 3)
  have ha0 := ha.below hb0
  obtain ⟨A, c, rfl, _⟩ := ha.form
  obtain ⟨A', c', rfl, _⟩ := hb.form
  go_enter Try.func24, Try.ntmps24
  go_wp2_with (first
    | (at_builtin; refine wpList_append_sees _ rfl (.tmp 5) (.tmp 6) 23 rfl w.heap.size 3 i0 (.int .i64 0) 1 8 Try.underlying23 hi hz0 hz1 hz2 rfl (by decide) (.slice (some ⟨w.heap.size, 0, none⟩) 0 0) 0 [] rfl hown0 _ _ _ _ rfl ha0 (int_cell _) (by unfold maxLen; omega) (by omega) (by simp) ?_; intro v1 w1 hown1 hg1 _ _; have hb1 := below_own hb0 hown0 hg1 (Nat.le_refl _) (by simp); clear hown0 hb0)
    | (go_at_call 37; refine (values_calls _ _ _ _).mono ?_; rintro e w' ⟨rfl, rfl⟩))
  have bN := Boxed.new w1 23 (.slice A' ys.length c')
  have hb2 := hb1.alloc hb1.size (.cells #[.slice A' ys.length c'] 23)
  have hown2 := hown1.alloc (.cells #[.slice A' ys.length c'] 23)
  have hsz : (w1.alloc (.cells #[.slice A' ys.length c'] 23)).heap.size = w1.heap.size + 1 := by simp
  have hs1 := hb1.size
  generalize w1.alloc (.cells #[.slice A' ys.length c'] 23) = w2 at bN hb2 hown2 hsz ⊢
  refine (appendSeq_calls w2 w.heap.size _ ys.length _ _ v1 _ hown2 (by omega) (enters_of Try.func51 (by kernel_rfl) rfl)
    (values_stops 4 (by omega) w1.heap.size w.heap.size _ ys (by omega) w2 (by omega) (by omega) bN.cell (hb.below hb2)) belowK_t (belowK_b (by omega)) (fun _ _ h _ => h) (by omega)).mono ?_
  rintro e w3 ⟨v, zs, rfl, rfl, hr, _, hb3⟩
  go_wp2
  go_ret
  exact ⟨v, rfl, by simpa using hr, hb2.trans hb3⟩

end Go.Proofs.Ytmfmpfcgllpflaa
