/-
  The walk of the law FnExactSortedValues: it returns true and writes nothing that was there.
-/
import Derived.Test.YtfagmnjhpipndaaSame
import Derived.Test.YtfagmnjhpipndaaSortedValues
import Derived.Test.YtfagmnjhpipndaaSpecUpward
namespace Go.Proofs.Ytfagmnjhpipndaa
open Go.RowKit Go.Shelf

set_option maxHeartbeats 400000 in
theorem fnExactSortedValues_walk (w : World) (v0 : Value) (z0 : List Int) (s0 : SeesI w w.heap.size v0 z0) (b0 : z0.length * 8 ≤ 140737488351232) (_ : ∀ z ∈ z0, (Lit.int .i64 z).wf = true) :
    Calls Try.prog 7 #[v0] w fun e w' => e = .returned (.bool true) ∧ Below w.heap.size w w' := by
  go_enter Try.func7, Try.ntmps7
  go_wp2_with fail
  refine (sortedValues_calls w _ z0 s0 (by omega)).mono ?_
  rintro e w1 ⟨x, u, rfl, sx, hu, hb1⟩
  have hs1 := hb1.size
  go_wp2_with fail
  refine (same_yes w1 _ _ x v0 z0 sx (s0.below hb1) (by omega)).mono ?_
  rintro e w2 ⟨rfl, q, rfl⟩
  go_wp2_with fail
  refine (specUpward_calls (w1.drewN q) w.heap.size _ z0 ((s0.below hb1).drewN q) hs1 (by omega)).mono ?_
  rintro e w3 ⟨y, rfl, hy, hb2⟩
  have su := ((SeesI.own hu).drewN q).below hb2
  have sy := SeesI.own hy
  have hl0 : (upw z0).length ≤ 1000000000000000000 := by rw [upw_length]; omega
  clear hu hy
  generalize upw z0 = us at su sy hl0
  go_wp2_with fail
  refine (same_yes w3 _ _ u y us su sy hl0).mono ?_
  rintro e w4 ⟨rfl, q2, rfl⟩
  go_wp2
  go_ret
  exact ⟨rfl, below_drewN ((below_drewN hb1 q).trans (hb2.mono hs1)) q2⟩

end Go.Proofs.Ytfagmnjhpipndaa
