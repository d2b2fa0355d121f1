/-
  The walk of the law FnExactAppendKeys: it returns true and writes nothing that was there.
-/
import Derived.Test.YtpmcoiomnkladaaSame
import Derived.Test.YtpmcoiomnkladaaAppendKeys
import Derived.Test.YtpmcoiomnkladaaSpecKeys
namespace Go.Proofs.Ytpmcoiomnkladaa
open Go.RowKit Go.Shelf Go.Maps

set_option maxHeartbeats 1000000 in
theorem fnExactAppendKeys_walk (w : World) (v0 : Value) (z0 : List Int) (v1 : Value) (z1 : List (Int × Int)) (s0 : SeesI w w.heap.size v0 z0) (b0 : z0.length ≤ 1048576) (_ : ∀ z ∈ z0, (Lit.int .i64 z).wf = true)
    (s1 : SeesP w w.heap.size v1 z1) (b1 : z1.length ≤ 1048576) (f1 : Fits z1) :
    Calls Try.prog 6 #[v0, v1] w fun e w' => e = .returned (.bool true) ∧ Below w.heap.size w w' := by
  have hc := Lib.hid (appendKeys_calls w v0 v1 z0 z1 s0 s1 f1 (by omega))
  clear f1
  go_enter Try.func6, Try.ntmps6
  go_wp2_with fail
  refine hc.out.mono ?_
  rintro e w1 ⟨x, y, rfl, hx, hy, hb1⟩
  have hs1 := hb1.size
  have hkl := keysU_le z1
  have sx := SeesI.own hx
  go_wp2_with fail
  refine (same_yes w1 _ _ x v0 z0 sx (s0.below hb1) (by omega)).mono ?_
  rintro e w2 ⟨rfl, q, rfl⟩
  go_wp2_with fail
  refine (specKeys_calls (w1.drewN q) _ _ z1 ((s1.below hb1).drewN q) hs1 (by omega)).mono ?_
  rintro e w3 ⟨u, rfl, hu, hb3⟩
  have sy := ((SeesI.own hy).drewN q).below hb3
  have su := SeesI.own hu
  clear hx hy hu hc
  generalize keysU z1 = zs at sy su hkl
  go_wp2_with fail
  refine (same_yes w3 _ _ y u zs sy su (by omega)).mono ?_
  rintro e w4 ⟨rfl, q2, rfl⟩
  go_wp2
  go_ret
  exact ⟨rfl, below_drewN ((below_drewN hb1 q).trans (hb3.mono hs1)) q2⟩

end Go.Proofs.Ytpmcoiomnkladaa
