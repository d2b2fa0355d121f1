/-
  The walk of the law FnExactMapInsert: it returns true and writes nothing that was there.
-/
import Derived.Test.YtaeeiociiojciaaSamePairs
import Derived.Test.YtaeeiociiojciaaMapInsert
import Derived.Test.YtaeeiociiojciaaMapMore
import Derived.Test.YtaeeiociiojciaaJoinPairs
namespace Go.Proofs.Ytaeeiociiojciaa
open Go.RowKit Go.Shelf Go.Maps

theorem ups_pos {ds zs ps : List (Int × Int)} (h : 0 < zs.length) (hg : Graph ps (ups (mkm ds) zs)) : 0 < ps.length := by
  rw [← mkm_append] at hg
  have := hg.unique (mapU_graph (ds ++ zs))
  rw [this]
  exact mapU_pos _ (by simp; omega)

set_option maxHeartbeats 1000000 in
theorem fnExactMapInsert_walk (w : World) (v0 : Value) (z0 : List (Int × Int)) (v1 : Value) (z1 : List (Int × Int)) (s0 : SeesP w w.heap.size v0 z0) (b0 : z0.length ≤ 1048576) (f0 : Fits z0) (s1 : SeesP w w.heap.size v1 z1) (b1 : z1.length ≤ 1048576) (f1 : Fits z1) :
    Calls Try.prog 9 #[v0, v1] w fun e w' => e = .returned (.bool true) ∧ Below w.heap.size w w' := by
  go_enter Try.func9, Try.ntmps9
  go_wp2_with fail
  refine (specMap_calls w _ v1 z1 s1 (Nat.le_refl _) (by omega)).mono ?_
  rintro e w1 ⟨y, rfl, hy, hb1⟩
  have hs1 := hb1.size
  have t0 := (s0.below hb1).more hs1
  have t1 := (s1.below hb1).more hs1
  have hc := Lib.hid (mapInsert_calls w1 v0 v1 z0 z1 t0 f0 t1 f1 (by omega))
  obtain ⟨A1, c1, e1, _⟩ := s1.form
  obtain ⟨Ay, cy, ey, _⟩ := own_form hy
  subst e1 ey
  clear s0 s1 f0 f1 hy
  by_cases hlt : (mapU z1).length < z1.length
  · go_wp2_with fail
    refine hc.out.mono ?_
    rintro e w2 ⟨x, ps, rfl, hgr, hpl, hx, hb2⟩
    have hpos := ups_pos (by omega) hgr
    obtain ⟨Ax, cx, ex, _⟩ := own_form hx
    subst ex
    clear hx hgr t0 t1
    go_wp2
    go_ret
    exact ⟨rfl, hb1.trans (hb2.mono hs1)⟩
  · go_wp2_with fail
    refine hc.out.mono ?_
    rintro e w2 ⟨x, ps, rfl, hgr, hpl, hx, hb2⟩
    obtain rfl := hgr.unique (by have := mapU_graph (z0 ++ z1); rwa [mkm_append] at this)
    have hs2 := hb2.size
    clear hgr
    go_wp2_with fail
    refine (joinPairs_calls w2 w2.heap.size v0 _ z0 z1 ((t0.below hb2).more hs2) ((t1.below hb2).more hs2) (Nat.le_refl _) (by omega)).mono ?_
    rintro e w3 ⟨yj, rfl, hyj, hb3⟩
    have hs3 := hb3.size
    go_wp2_with fail
    refine (specMap_calls w3 _ yj (z0 ++ z1) (SeesP.own hyj) (Nat.le_refl _) (by simp; omega)).mono ?_
    rintro e w4 ⟨y4, rfl, hy4, hb4⟩
    have hb34 := hb3.trans (hb4.mono hs3)
    have sx := (SeesP.own hx).below hb34
    have sy := SeesP.own hy4
    have hl : (mapU (z0 ++ z1)).length ≤ 100000000000000000 := by have := mapU_length (z0 ++ z1); simp at this; omega
    clear hx hy4 hyj
    generalize mapU (z0 ++ z1) = zs at sx sy hl
    go_wp2_with fail
    refine (samePairs_yes w4 _ _ x y4 zs sx sy hl).mono ?_
    rintro e w5 ⟨rfl, q, rfl⟩
    go_wp2_with fail
    go_ret
    exact ⟨rfl, below_drewN ((hb1.trans (hb2.mono hs1)).trans (hb34.mono (by omega))) q⟩

end Go.Proofs.Ytaeeiociiojciaa
