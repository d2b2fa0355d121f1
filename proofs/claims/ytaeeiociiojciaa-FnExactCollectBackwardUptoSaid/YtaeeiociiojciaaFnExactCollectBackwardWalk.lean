/-
  The walk of the law FnExactCollectBackward: it returns true and writes nothing that was there.
-/
import Derived.Test.YtaeeiociiojciaaSamePairs
import Derived.Test.YtaeeiociiojciaaCollectBackward
import Derived.Test.YtaeeiociiojciaaSpecAll
namespace Go.Proofs.Ytaeeiociiojciaa
open Go.RowKit Go.Shelf Go.Maps

set_option maxHeartbeats 1000000 in
theorem fnExactCollectBackward_walk (w : World) (v0 : Value) (z0 : List Int) (s0 : SeesI w w.heap.size v0 z0) (b0 : z0.length ≤ 1048576) (f0 : ∀ z ∈ z0, (Lit.int .i64 z).wf = true) :
    Calls Try.prog 4 #[v0] w fun e w' => e = .returned (.bool true) ∧ Below w.heap.size w w' := by
  go_enter Try.func4, Try.ntmps4
  go_wp2_with fail
  refine (collectBackward_calls w v0 z0 s0 f0 (by omega)).mono ?_
  rintro e w1 ⟨x, ps, rfl, hgr, hpl, hx, hb1⟩
  obtain rfl := hgr.unique (graph_turned (allOf_rising z0))
  clear hgr
  go_wp2_with fail
  refine (specAll_calls w1 _ v0 z0 (s0.below hb1) hb1.size (by omega)).mono ?_
  rintro e w2 ⟨y, rfl, hy, hb2⟩
  have sx := (SeesP.own hx).below hb2
  have sy := SeesP.own hy
  have hl : (allOf z0).length ≤ 100000000000000000 := by rw [allOf_length]; omega
  clear hx hy
  generalize allOf z0 = zs at sx sy hl
  go_wp2_with fail
  refine (samePairs_yes w2 _ _ x y zs sx sy hl).mono ?_
  rintro e w3 ⟨rfl, q, rfl⟩
  go_wp2_with fail
  go_ret
  exact ⟨rfl, below_drewN (hb1.trans (hb2.mono hb1.size)) q⟩

end Go.Proofs.Ytaeeiociiojciaa
