/-
  The contract of impl.Sorted: all numbers ascending, and nil just if there are none. No statement is proved here.
-/
import Derived.Test.YtlibakmllogcdaaSortedT
import Derived.Test.YtlibakmllogcdaaTextsIter
namespace Go.Proofs.Ytlibakmllogcdaa
open Go.RowKit Go.Shelf Go.Sort

set_option maxHeartbeats 400000 in
/-- impl.Sorted -/
theorem implSortedT_calls (w : World) (sv : Value) (zs : List (List UInt8)) (hI : SeesT w w.heap.size sv zs) (hz : zs.length * 16 ≤ 140737488355328) :
    Calls Try.prog 7 #[sv] w fun e w' =>
      ∃ v, e = .returned v ∧ w'.ownsRow w.heap.size 9 1 v (upwT zs).length ((upwT zs).map encStr) ∧ Below w.heap.size w w' := by
  obtain ⟨A, c, rfl, _⟩ := hI.form
  go_enter Try.func7, Try.ntmps7
  go_wp2_with (go_at_call 15; refine (texts_calls _ _ _ _).mono ?_; rintro e w' ⟨rfl, rfl⟩)
  have bN := Boxed.new w 22 (.slice A zs.length c)
  have hb2 := (Below.refl _ w).alloc (Nat.le_refl _) (.cells #[.slice A zs.length c] 22)
  have hsz : (w.alloc (.cells #[.slice A zs.length c] 22)).heap.size = w.heap.size + 1 := by simp
  generalize w.alloc (.cells #[.slice A zs.length c] 22) = w2 at bN hb2 hsz ⊢
  refine (sortedT_calls w2 zs.length _ _ (enters_of Try.func24 (by kernel_rfl) rfl)
    (texts_stops 4 (by omega) w.heap.size w.heap.size _ zs (by omega) w2 (by omega) (by omega) bN.cell (hI.below hb2)) belowK_t (belowK_b (by omega)) (fun _ _ h _ => h.mono (by omega)) (by omega) (fun xs e => by rw [e]; exact Nat.le_refl _)).mono ?_
  rintro e w3 ⟨v, xs, rfl, rfl, hr, hnil, hb3⟩
  obtain ⟨A', c', rfl, _⟩ := own_form hr
  clear hnil
  go_wp2
  go_ret
  exact ⟨_, rfl, own_base hr (by omega), hb2.trans (hb3.mono (by omega))⟩

end Go.Proofs.Ytlibakmllogcdaa
