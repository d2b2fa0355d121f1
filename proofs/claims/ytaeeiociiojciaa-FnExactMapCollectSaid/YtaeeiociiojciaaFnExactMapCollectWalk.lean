/-
  The walk of the law FnExactMapCollect: it returns true and writes nothing that was there.
-/
import Derived.Test.YtaeeiociiojciaaSamePairs
import Derived.Test.YtaeeiociiojciaaMapCollect
import Derived.Test.YtaeeiociiojciaaMapMore
namespace Go.Proofs.Ytaeeiociiojciaa
open Go.RowKit Go.Shelf Go.Maps

set_option maxHeartbeats 1000000 in
theorem fnExactMapCollect_walk (w : World) (v0 : Value) (z0 : List (Int × Int)) (s0 : SeesP w w.heap.size v0 z0) (b0 : z0.length * 16 ≤ 140737488351232) (f0 : Fits z0) :
    Calls Try.prog 5 #[v0] w fun e w' => e = .returned (.bool true) ∧ Below w.heap.size w w' := by
  go_enter Try.func5, Try.ntmps5
  go_wp2_with fail
  refine (mapCollect_calls w v0 z0 s0 f0 (by omega)).mono ?_
  rintro e w1 ⟨x, ps, rfl, hgr, hpl, hx, hb1⟩
  obtain rfl := hgr.unique (mapU_graph z0)
  clear hgr
  go_wp2_with fail
  refine (specMap_calls w1 _ v0 z0 (s0.below hb1) hb1.size (by omega)).mono ?_
  rintro e w2 ⟨y, rfl, hy, hb2⟩
  have s2 := (s0.below hb1).below (hb2.mono hb1.size)
  have hb12 := hb1.trans (hb2.mono hb1.size)
  have hc := Lib.hid (specMap_calls w2 _ v0 z0 s2 hb12.size (by omega))
  have sx := (SeesP.own hx).below hb2
  have hpos : 0 < z0.length → 0 < (mapU z0).length := mapU_pos z0
  have hl : (mapU z0).length ≤ 100000000000000000 := by have := mapU_length z0; omega
  obtain ⟨A0, c0, e0, _⟩ := s0.form
  obtain ⟨Ay, cy, ey, _⟩ := own_form hy
  subst e0 ey
  clear s0 s2 hy
  by_cases hlt : (mapU z0).length < z0.length
  · have hp := hpos (by omega)
    obtain ⟨Ax, cx, ex, _⟩ := own_form hx
    subst ex
    clear hx hpos sx hc
    go_wp2
    go_ret
    exact ⟨rfl, hb12⟩
  · clear hpos
    go_wp2_with fail
    refine hc.out.mono ?_
    rintro e w3 ⟨y2, rfl, hy2, hb3⟩
    have sx3 := (sx.more hb2.size).below hb3
    have sy3 := SeesP.own hy2
    clear hx hy2 sx hlt
    generalize mapU z0 = zs at sx3 sy3 hl
    go_wp2_with fail
    refine (samePairs_yes w3 _ _ x y2 zs sx3 sy3 hl).mono ?_
    rintro e w4 ⟨rfl, q, rfl⟩
    go_wp2_with fail
    go_ret
    exact ⟨rfl, below_drewN (hb12.trans (hb3.mono hb12.size)) q⟩

end Go.Proofs.Ytaeeiociiojciaa
