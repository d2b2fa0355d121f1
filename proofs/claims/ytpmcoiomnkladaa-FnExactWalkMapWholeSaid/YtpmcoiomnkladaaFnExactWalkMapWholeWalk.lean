/-
  The walk of the law FnExactWalkMapWhole: it returns true and writes nothing that was there.
-/
import Derived.Test.YtpmcoiomnkladaaWalkMap
import Derived.Test.YtpmcoiomnkladaaSamePairs
import Derived.Test.YtpmcoiomnkladaaWalkedLaw
namespace Go.Proofs.Ytpmcoiomnkladaa
open Go.RowKit Go.Shelf Go.Maps

theorem putAll_full {xs ps : List (Int × Int)} (h : PartOf xs (mkm ps)) (hl : xs.length = (mapU ps).length) : putAll xs = mapU ps :=
  Graph.unique (f := mkm ps) ⟨putAll_rising h.1, fun k v => (putAll_mem xs (k, v)).trans ((part_full h hl).2 k v)⟩ (mapU_graph ps)

set_option maxHeartbeats 1000000 in
theorem fnExactWalkMapWhole_walk (w : World) (v0 : Value) (z0 : List (Int × Int)) (s0 : SeesP w w.heap.size v0 z0) (b0 : z0.length * 16 ≤ 140737488351232) (f0 : Fits z0) :
    Calls Try.prog 8 #[v0] w fun e w' => e = .returned (.bool true) ∧ Below w.heap.size w w' := by
  have hc := Lib.hid (walkMap_calls w v0 z0 (z0.length : Int) s0 f0 (by omega))
  obtain ⟨A0, c0, e0, _, _⟩ := s0.form
  subst e0
  clear f0
  go_enter Try.func8, Try.ntmps8
  go_wp2_with fail
  refine hc.out.mono ?_
  rintro e w1 ⟨x, xs, rfl, hP, hxl, hx, hb1⟩
  have hs1 := hb1.size
  have hml := mapU_length z0
  rw [putAll_full hP (by rw [hxl]; omega)] at hx
  clear hP hxl
  go_wp2_with fail
  refine (specMap_calls w1 w.heap.size _ z0 (s0.below hb1) hs1 (by omega)).mono ?_
  rintro e w2 ⟨y, rfl, hy, hb2⟩
  have sx := (SeesP.own hx).below hb2
  have sy := SeesP.own hy
  have hl : (mapU z0).length ≤ 100000000000000000 := by omega
  clear hx hy hml
  generalize mapU z0 = zs at sx sy hl
  go_wp2_with fail
  refine (samePairs_yes w2 _ _ x y zs sx sy hl).mono ?_
  rintro e w3 ⟨rfl, q, rfl⟩
  go_wp2_with fail
  go_ret
  exact ⟨rfl, below_drewN (hb1.trans (hb2.mono hs1)) q⟩

end Go.Proofs.Ytpmcoiomnkladaa
