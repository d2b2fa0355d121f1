/-
  The contract of impl.SortedFloats: all numbers, no number ahead of a lesser one. No statement is proved here.
-/
import Derived.Test.YtlibakmllogcdaaSortedF
import Derived.Test.YtlibakmllogcdaaFloatsIter
namespace Go.Proofs.Ytlibakmllogcdaa
open Go.RowKit Go.Shelf

set_option maxHeartbeats 400000 in
/-- impl.SortedFloats -/
theorem implSortedF_calls (w : World) (sv : Value) (zs : List Nat) (hI : SeesF w w.heap.size sv zs) (hz : zs.length * 8 ≤ 140737488355328) :
    Calls Try.prog 10 #[sv] w fun e w' =>
      ∃ v ys, e = .returned v ∧ List.Perm ys zs ∧ Rises ys ∧ w'.ownsRow w.heap.size 32 1 v ys.length (ys.map (Value.float .f64)) ∧ Below w.heap.size w w' := by
  obtain ⟨A, c, rfl, _⟩ := hI.form
  go_enter Try.func10, Try.ntmps10
  go_wp2_with (go_at_call 20; refine (floats_calls _ _ _ _).mono ?_; rintro e w' ⟨rfl, rfl⟩)
  have bN := Boxed.new w 29 (.slice A zs.length c)
  have hb2 := (Below.refl _ w).alloc (Nat.le_refl _) (.cells #[.slice A zs.length c] 29)
  have hsz : (w.alloc (.cells #[.slice A zs.length c] 29)).heap.size = w.heap.size + 1 := by simp
  generalize w.alloc (.cells #[.slice A zs.length c] 29) = w2 at bN hb2 hsz ⊢
  refine (sortedF_calls w2 zs.length _ _ (enters_of Try.func27 (by kernel_rfl) rfl)
    (floats_stops 4 (by omega) w.heap.size w.heap.size _ zs (by omega) w2 (by omega) (by omega) bN.cell (hI.below hb2)) belowK_t (belowK_b (by omega)) (fun _ _ h _ => h.mono (by omega)) (by omega) (fun xs e => by rw [e]; exact Nat.le_refl _)).mono ?_
  rintro e w3 ⟨v, xs, ys, rfl, rfl, hp, hri, hr, hb3⟩
  have Hp := Lib.hid hp
  have Hri := Lib.hid hri
  have Hr := Lib.hid hr
  obtain ⟨A', c', rfl, _⟩ := own_form hr
  clear hp hri hr
  go_wp2
  go_ret
  exact ⟨_, ys, rfl, Hp.out, Hri.out, own_base Hr.out (by omega), hb2.trans (hb3.mono (by omega))⟩

end Go.Proofs.Ytlibakmllogcdaa
