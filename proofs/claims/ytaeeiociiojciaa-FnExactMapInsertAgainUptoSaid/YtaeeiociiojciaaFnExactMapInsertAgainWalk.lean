/-
  The walk of the law FnExactMapInsertAgain: it returns true and writes nothing that was there.
-/
import Derived.Test.YtaeeiociiojciaaSamePairs
import Derived.Test.YtaeeiociiojciaaMapInsert
import Derived.Test.YtaeeiociiojciaaMapMore
import Derived.Test.YtaeeiociiojciaaJoinPairs
namespace Go.Proofs.Ytaeeiociiojciaa
open Go.RowKit Go.Shelf Go.Maps

set_option maxHeartbeats 1000000 in
theorem fnExactMapInsertAgain_walk (w : World) (v0 : Value) (z0 : List (Int × Int)) (v1 : Value) (z1 : List (Int × Int)) (s0 : SeesP w w.heap.size v0 z0) (b0 : z0.length ≤ 1048576) (f0 : Fits z0) (s1 : SeesP w w.heap.size v1 z1) (b1 : z1.length ≤ 1048576) (f1 : Fits z1) :
    Calls Try.prog 10 #[v0, v1] w fun e w' => e = .returned (.bool true) ∧ Below w.heap.size w w' := by
  go_enter Try.func10, Try.ntmps10
  go_wp2_with fail
  refine (mapInsert_calls w v0 v1 z0 z1 s0 f0 s1 f1 (by omega)).mono ?_
  rintro e w1 ⟨x, ps, rfl, hgr, hpl, hx, hb1⟩
  obtain rfl := hgr.unique (by have := mapU_graph (z0 ++ z1); rwa [mkm_append] at this)
  clear hgr
  have hs1 := hb1.size
  go_wp2_with fail
  refine (joinPairs_calls w1 w1.heap.size v0 v1 z0 z1 ((s0.below hb1).more hs1) ((s1.below hb1).more hs1) (Nat.le_refl _) (by omega)).mono ?_
  rintro e w3 ⟨yj, rfl, hyj, hb3⟩
  go_wp2_with fail
  have hs3 := hb3.size
  refine (specMap_calls w3 _ yj (z0 ++ z1) (SeesP.own hyj) (Nat.le_refl _) (by simp; omega)).mono ?_
  rintro e w4 ⟨y, rfl, hy, hb4⟩
  have hb34 := hb3.trans (hb4.mono hs3)
  have sx := (SeesP.own hx).below hb34
  have sy := SeesP.own hy
  have hl : (mapU (z0 ++ z1)).length ≤ 100000000000000000 := by have := mapU_length (z0 ++ z1); simp at this; omega
  clear hx hy hyj
  generalize mapU (z0 ++ z1) = zs at sx sy hl
  go_wp2_with fail
  refine (samePairs_yes w4 _ _ x y zs sx sy hl).mono ?_
  rintro e w5 ⟨rfl, q, rfl⟩
  go_wp2_with fail
  go_ret
  exact ⟨rfl, below_drewN (hb1.trans (hb34.mono hs1)) q⟩

end Go.Proofs.Ytaeeiociiojciaa
