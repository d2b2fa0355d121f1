/-
  The walk of the law FnExactSortedFuncKeys: it returns true and writes nothing that was there.
-/
import Derived.Test.YtpnlindmcomikaaSame
import Derived.Test.YtpnlindmcomikaaSortedFuncKeys
import Derived.Test.YtpnlindmcomikaaSpecUpward
import Derived.Test.YtpnlindmcomikaaSpecKeys
namespace Go.Proofs.Ytpnlindmcomikaa
open Go.RowKit Go.Shelf Go.Maps

set_option maxRecDepth 100000 in
set_option maxHeartbeats 1000000 in
theorem fnExactSortedFuncKeys_walk (w : World) (v0 : Value) (z0 : List (Int × Int)) (v1 : Value) (z1 : List Int) (s0 : SeesP w w.heap.size v0 z0) (b0 : z0.length * 16 ≤ 140737488351232) (f0 : Fits z0)
    (s1 : SeesI w w.heap.size v1 z1) (b1 : z1.length * 8 ≤ 140737488351232) (_ : ∀ z ∈ z1, (Lit.int .i64 z).wf = true) :
    Calls Try.prog 7 #[v0, v1] w fun e w' => e = .returned (.bool true) ∧ Below w.heap.size w w' := by
  have hc := Lib.hid (sortedFuncKeys_calls w v0 v1 z0 z1 s0 f0 s1 (by omega) (by omega))
  go_enter Try.func7, Try.ntmps7
  go_wp2_with fail
  refine hc.out.mono ?_
  rintro e w1 ⟨x, ys, rfl, hup, hyl, hri, hx, hb1⟩
  have hs1 := hb1.size
  have Hri := Lib.hid hri
  have Hup := Lib.hid hup
  have sx := SeesI.own hx
  have t0 := (s0.below hb1).more hs1
  have t1 := (s1.below hb1).more hs1
  clear hri hx hc hup
  go_wp2_with fail
  refine (ranksRise_yes w1 _ x v1 ys z1 sx t1 (by omega) (by omega) Hri.out).mono ?_
  rintro e w2 ⟨rfl, q, rfl⟩
  go_wp2_with fail
  refine (specUpward_calls (w1.drewN q) w1.heap.size x ys (sx.drewN q) (Nat.le_refl _) (by omega)).mono ?_
  rintro e w3 ⟨y1, rfl, hy1, hb3⟩
  rw [Hup.out] at hy1
  have hs3 := hb3.size
  have t03 := ((t0.drewN q).below hb3).more hs3
  go_wp2_with fail
  refine (specKeys_calls w3 w3.heap.size _ z0 t03 (Nat.le_refl _) (by omega)).mono ?_
  rintro e w4 ⟨y2, rfl, hy2, hb4⟩
  have sy1 := (SeesI.own hy1).below hb4
  have sy2 := SeesI.own hy2
  have hl0 : (keysU z0).length ≤ 1000000000000000000 := by have := keysU_le z0; omega
  have hB4 := ((below_drewN hb1 q).trans (hb3.mono hs1)).trans (hb4.mono (Nat.le_trans hs1 hs3))
  clear hy1 hy2
  generalize keysU z0 = us at sy1 sy2 hl0
  go_wp2_with fail
  refine (same_yes w4 _ _ y1 y2 us sy1 sy2 hl0).mono ?_
  rintro e w5 ⟨rfl, q2, rfl⟩
  go_wp2
  go_ret
  exact ⟨rfl, below_drewN hB4 q2⟩

end Go.Proofs.Ytpnlindmcomikaa
