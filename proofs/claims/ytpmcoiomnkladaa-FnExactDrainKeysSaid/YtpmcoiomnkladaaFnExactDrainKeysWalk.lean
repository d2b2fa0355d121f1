/-
  The walk of the law FnExactDrainKeys: it returns true and writes nothing that was there.
-/
import Derived.Test.YtpmcoiomnkladaaSame
import Derived.Test.YtpmcoiomnkladaaDrainKeys
import Derived.Test.YtpmcoiomnkladaaSpecKeys
namespace Go.Proofs.Ytpmcoiomnkladaa
open Go.RowKit Go.Shelf Go.Maps

set_option maxHeartbeats 1000000 in
theorem fnExactDrainKeys_walk (w : World) (v0 : Value) (z0 : List (Int × Int)) (s0 : SeesP w w.heap.size v0 z0) (b0 : z0.length * 16 ≤ 140737488351232) (f0 : Fits z0) :
    Calls Try.prog 3 #[v0] w fun e w' => e = .returned (.bool true) ∧ Below w.heap.size w w' := by
  have hc := Lib.hid (drainKeys_calls w v0 z0 s0 f0 (by omega))
  obtain ⟨A0, c0, e0, _⟩ := s0.form
  subst e0
  clear f0
  go_enter Try.func3, Try.ntmps3
  go_wp2_with fail
  refine hc.out.mono ?_
  rintro e w1 ⟨x, rfl, hx, hb1⟩
  have hs1 := hb1.size
  have hkl := keysU_le z0
  go_wp2_with fail
  refine (specKeys_calls w1 _ _ z0 (s0.below hb1) hs1 (by omega)).mono ?_
  rintro e w2 ⟨y, rfl, hy, hb2⟩
  have sx := (SeesI.own hx).below hb2
  have sy := SeesI.own hy
  have hl : (keysU z0).length ≤ 100000000000000000 := by omega
  clear hx hy hkl
  generalize keysU z0 = zs at sx sy hl
  go_wp2_with fail
  refine (same_yes w2 _ _ x y zs sx sy (by omega)).mono ?_
  rintro e w3 ⟨rfl, q, rfl⟩
  go_wp2
  go_ret
  exact ⟨by simp, below_drewN (hb1.trans (hb2.mono hs1)) q⟩

end Go.Proofs.Ytpmcoiomnkladaa
