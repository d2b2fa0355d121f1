/-
  The walk of the law FnExactSortedMapValues: it returns true and writes nothing that was there.
-/
import Derived.Test.YtfagmnjhpipndaaSame
import Derived.Test.YtfagmnjhpipndaaSortedMapValues
import Derived.Test.YtfagmnjhpipndaaSpecValues
namespace Go.Proofs.Ytfagmnjhpipndaa
open Go.RowKit Go.Shelf Go.Maps

set_option maxHeartbeats 1000000 in
theorem fnExactSortedMapValues_walk (w : World) (v0 : Value) (z0 : List (Int × Int)) (s0 : SeesP w w.heap.size v0 z0) (b0 : z0.length * 16 ≤ 140737488351232) (f0 : Fits z0) :
    Calls Try.prog 9 #[v0] w fun e w' => e = .returned (.bool true) ∧ Below w.heap.size w w' := by
  have hc := Lib.hid (sortedMapValues_calls w v0 z0 s0 f0 (by omega))
  obtain ⟨A0, c0, e0, _, _⟩ := s0.form
  subst e0
  clear f0
  go_enter Try.func9, Try.ntmps9
  go_wp2_with fail
  refine hc.out.mono ?_
  rintro e w1 ⟨x, rfl, hx, hb1⟩
  have hs1 := hb1.size
  have hkl : (valsU z0).length ≤ z0.length := by rw [valsU_length]; exact mapU_length z0
  go_wp2_with fail
  refine (specValues_calls w1 _ _ z0 (s0.below hb1) hs1 (by omega)).mono ?_
  rintro e w2 ⟨y, rfl, hy, hb2⟩
  have sx := (SeesI.own hx).below hb2
  have sy := SeesI.own hy
  clear hx hy
  generalize valsU z0 = zs at sx sy hkl
  go_wp2_with fail
  refine (same_yes w2 _ _ x y zs sx sy (by omega)).mono ?_
  rintro e w3 ⟨rfl, q, rfl⟩
  go_wp2_with fail
  go_ret
  exact ⟨rfl, below_drewN (hb1.trans (hb2.mono hs1)) q⟩

end Go.Proofs.Ytfagmnjhpipndaa
