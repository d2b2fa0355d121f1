/-
  The walk of the law FnMapWalksApart: it returns true and writes nothing that was there.
-/
import Derived.Test.YtpmcoiomnkladaaDrawPairs
import Derived.Test.YtpmcoiomnkladaaSevenPairs
import Derived.Test.YtpmcoiomnkladaaWalkMap
import Derived.Test.YtpmcoiomnkladaaWalkKeys
import Derived.Test.YtpmcoiomnkladaaWalkMapValues
namespace Go.Proofs.Ytpmcoiomnkladaa
open Go.RowKit Go.Shelf Go.Maps

theorem mapU_pair7 : (mapU [((7 : Int), (1 : Int))]).length = 1 := by decide

set_option maxHeartbeats 1000000 in
theorem fnMapWalksApart_walk (w : World) (v0 : Value) (z0 : List Int) (s0 : SeesB w w.heap.size v0 z0) (_ : z0.length * 1 ≤ 140737488351232) (f0 : ∀ z ∈ z0, 0 ≤ z ∧ z ≤ 255) :
    Calls Try.prog 11 #[v0] w fun e w' => e = .returned (.bool true) ∧ Below w.heap.size w w' := by
  obtain ⟨A, c, hv, _⟩ := s0.form
  by_cases hbig : (1048576 : Int) < (z0.length : Int)
  · subst hv
    clear s0 f0
    go_enter Try.func11, Try.ntmps11
    go_wp2
    go_ret
    exact ⟨rfl, Below.refl _ _⟩
  · have hd := Lib.hid (drawMapMost_calls w v0 z0 s0 (by omega) f0)
    subst hv
    clear s0 f0
    go_enter Try.func11, Try.ntmps11
    go_wp2_with fail
    refine hd.out.mono ?_
    rintro e w1 ⟨v1, z1, m, rfl, ⟨s1, l1, g1⟩, hb1⟩
    go_wp2_with fail
    refine (walkMap_calls w1 v1 z1 m s1 g1 (by omega)).mono ?_
    rintro e w2 ⟨x, xs, rfl, _, hxl, hx, hb2⟩
    rw [show (putAll xs).length = min (mapU z1).length m.toNat by rw [putAll_length, hxl]] at hx
    obtain ⟨Ax, cx, ex, _⟩ := own_form hx
    have s2 := (s1.below hb2).more hb2.size
    have hB2 := hb1.trans (hb2.mono hb1.size)
    clear hx hxl
    go_wp2_with fail
    refine (walkKeys_calls w2 v1 z1 m s2 g1 (by omega)).mono ?_
    rintro e w3 ⟨y, ys, rfl, _, hyl, hy, hb3⟩
    rw [show (upw (ys.map (·.1))).length = min (mapU z1).length m.toNat by rw [upw_length, List.length_map, hyl]] at hy
    obtain ⟨Ay, cy, ey, _⟩ := own_form hy
    have s3 := (s2.below hb3).more hb3.size
    have hB3 := hB2.trans (hb3.mono hB2.size)
    clear hy hyl
    go_wp2_with fail
    refine (walkMapValues_calls w3 v1 z1 m s3 g1 (by omega)).mono ?_
    rintro e w4 ⟨z, zs, rfl, _, hzl, hz, hb4⟩
    rw [show (upw (zs.map (·.2))).length = min (mapU z1).length m.toNat by rw [upw_length, List.length_map, hzl]] at hz
    obtain ⟨Az, cz, ez, _⟩ := own_form hz
    have hB4 := hB3.trans (hb4.mono hB3.size)
    clear hz hzl
    generalize min (mapU z1).length m.toNat = n at ex ey ez
    subst ex ey ez
    clear s1 s2 s3 hb2 hb3 hb4 hB2 hB3
    go_wp2_with fail
    refine (walkMap_calls _ _ [(7, 1)] 1 (sees_pair7 _) fits_pair7 (by decide)).mono ?_
    rintro e w5 ⟨o, os, rfl, _, hol, ho, hb5⟩
    rw [show (putAll os).length = 1 by rw [putAll_length, hol, mapU_pair7]; rfl] at ho
    obtain ⟨Ao, co, rfl, _⟩ := own_form ho
    clear ho hol
    have hB5 := hB4.alloc hB4.size (.cells #[.int .i64 7, .int .i64 1] 40)
    go_wp2
    go_ret
    exact ⟨by simp, hB5.trans (hb5.mono hB5.size)⟩

end Go.Proofs.Ytpmcoiomnkladaa
