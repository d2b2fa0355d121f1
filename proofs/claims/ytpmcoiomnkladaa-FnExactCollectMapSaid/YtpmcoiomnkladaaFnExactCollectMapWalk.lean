/-
  The walk of the law FnExactCollectMap: it returns true and writes nothing that was there.
-/
import Derived.Test.YtpmcoiomnkladaaSamePairs
import Derived.Test.YtpmcoiomnkladaaCollectMap
import Derived.Test.YtpmcoiomnkladaaMapMore
namespace Go.Proofs.Ytpmcoiomnkladaa
open Go.RowKit Go.Shelf Go.Maps

set_option maxHeartbeats 1000000 in
theorem fnExactCollectMap_walk (w : World) (v0 : Value) (z0 : List (Int × Int)) (s0 : SeesP w w.heap.size v0 z0) (b0 : z0.length * 16 ≤ 140737488351232) (f0 : Fits z0) :
    Calls Try.prog 10 #[v0] w fun e w' => e = .returned (.bool true) ∧ Below w.heap.size w w' := by
  go_enter Try.func10, Try.ntmps10
  go_wp2_with fail
  refine (collectMap_calls w v0 z0 s0 f0 (by omega)).mono ?_
  rintro e w1 ⟨x, ps, rfl, hgr, hpl, hx, hb1⟩
  obtain rfl := hgr.unique (mapU_graph z0)
  clear hgr
  go_wp2_with fail
  refine (specMap_calls w1 _ v0 z0 (s0.below hb1) hb1.size (by omega)).mono ?_
  rintro e w2 ⟨y, rfl, hy, hb2⟩
  have sx := (SeesP.own hx).below hb2
  have sy := SeesP.own hy
  have hl : (mapU z0).length ≤ 100000000000000000 := by have := mapU_length z0; omega
  clear hx hy
  generalize mapU z0 = zs at sx sy hl
  go_wp2_with fail
  refine (samePairs_yes w2 _ _ x y zs sx sy hl).mono ?_
  rintro e w3 ⟨rfl, q, rfl⟩
  go_wp2_with fail
  go_ret
  exact ⟨rfl, below_drewN (hb1.trans (hb2.mono hb1.size)) q⟩

end Go.Proofs.Ytpmcoiomnkladaa
