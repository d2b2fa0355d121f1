/-
  The walk of the law FnExactSortedTexts: it returns true and writes nothing that was there.
-/
import Derived.Test.YtlibakmllogcdaaSameT
import Derived.Test.YtlibakmllogcdaaImplSortedT
import Derived.Test.YtlibakmllogcdaaSpecSortedT
namespace Go.Proofs.Ytlibakmllogcdaa
open Go.RowKit Go.Shelf Go.Sort

set_option maxHeartbeats 400000 in
theorem fnExactSortedTexts_walk (w : World) (v0 : Value) (z0 : List (List UInt8)) (s0 : SeesT w w.heap.size v0 z0) (b0 : z0.length * 16 ≤ 140737488351232) (f0 : ∀ z ∈ z0, z.length ≤ 9223372036854775807) :
    Calls Try.prog 3 #[v0] w fun e w' => e = .returned (.bool true) ∧ Below w.heap.size w w' := by
  obtain ⟨A, c, rfl, _⟩ := s0.form
  go_enter Try.func3, Try.ntmps3
  go_wp2_with fail
  refine (implSortedT_calls w _ z0 s0 (by omega)).mono ?_
  rintro e w1 ⟨x, rfl, hx, hb1⟩
  have hs1 := hb1.size
  go_wp2_with fail
  refine (specSortedT_calls w1 w.heap.size _ z0 (s0.below hb1) hs1 (by omega) f0).mono ?_
  rintro e w2 ⟨y, rfl, hy, hb2⟩
  have sx := (SeesT.own hx).below hb2
  have sy := SeesT.own hy
  have hl0 : (upwT z0).length ≤ 1000000000000000000 := by rw [upwT_length]; omega
  clear hx hy f0
  generalize upwT z0 = us at sx sy hl0
  have hb1 := hb1.trans (hb2.mono hs1)
  go_wp2_with fail
  refine (sameT_yes w2 _ _ x y us sx sy hl0).mono ?_
  rintro e w3 ⟨rfl, q, rfl⟩
  go_wp2
  go_ret
  exact ⟨rfl, below_drewN hb1 q⟩

end Go.Proofs.Ytlibakmllogcdaa
