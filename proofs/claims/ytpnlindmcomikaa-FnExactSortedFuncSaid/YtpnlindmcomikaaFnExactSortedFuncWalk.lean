/-
  The walk of the law FnExactSortedFunc: it returns true and writes nothing that was there.
-/
import Derived.Test.YtpnlindmcomikaaSame
import Derived.Test.YtpnlindmcomikaaImplSortedFunc
import Derived.Test.YtpnlindmcomikaaSpecUpward
namespace Go.Proofs.Ytpnlindmcomikaa
open Go.RowKit Go.Shelf

set_option maxRecDepth 100000 in
set_option maxHeartbeats 1000000 in
theorem fnExactSortedFunc_walk (w : World) (v0 : Value) (z0 : List Int) (v1 : Value) (z1 : List Int) (s0 : SeesI w w.heap.size v0 z0) (b0 : z0.length * 8 ≤ 140737488351232) (_ : ∀ z ∈ z0, (Lit.int .i64 z).wf = true)
    (s1 : SeesI w w.heap.size v1 z1) (b1 : z1.length * 8 ≤ 140737488351232) (_ : ∀ z ∈ z1, (Lit.int .i64 z).wf = true) :
    Calls Try.prog 6 #[v0, v1] w fun e w' => e = .returned (.bool true) ∧ Below w.heap.size w w' := by
  have hc := Lib.hid (implSortedFunc_calls w v0 v1 z0 z1 s0 s1 (by omega) (by omega))
  obtain ⟨A0, c0, e0, _, _⟩ := s0.form
  subst e0
  go_enter Try.func6, Try.ntmps6
  go_wp2_with fail
  refine hc.out.mono ?_
  rintro e w1 ⟨x, b, ys, rfl, hp, hri, hx, hbn, hb1⟩
  have hs1 := hb1.size
  have hyl : ys.length = z0.length := hp.length_eq
  have hup := upw_of_perm hp
  have Hri := Lib.hid hri
  have Hbn := Lib.hid hbn
  have Hyl := Lib.hid hyl
  have hyl' : ys.length ≤ z0.length := Nat.le_of_eq hyl
  have sx := SeesI.own hx
  have t0 := (s0.below hb1).more hs1
  have t1 := (s1.below hb1).more hs1
  clear hp hri hx hbn hc hyl
  go_wp2_with fail
  refine (ranksRise_yes w1 _ x v1 ys z1 sx t1 (by omega) (by omega) Hri.out).mono ?_
  rintro e w2 ⟨rfl, q, rfl⟩
  go_wp2_with fail
  refine (specUpward_calls (w1.drewN q) w1.heap.size x ys (sx.drewN q) (Nat.le_refl _) (by omega)).mono ?_
  rintro e w3 ⟨y1, rfl, hy1, hb3⟩
  rw [hup] at hy1
  have hs3 := hb3.size
  have t03 := ((t0.drewN q).below hb3).more hs3
  go_wp2_with fail
  refine (specUpward_calls w3 w3.heap.size _ z0 t03 (Nat.le_refl _) (by omega)).mono ?_
  rintro e w4 ⟨y2, rfl, hy2, hb4⟩
  have sy1 := (SeesI.own hy1).below hb4
  have sy2 := SeesI.own hy2
  have hl0 : (upw z0).length ≤ 1000000000000000000 := by rw [upw_length]; omega
  have hB4 := ((below_drewN hb1 q).trans (hb3.mono hs1)).trans (hb4.mono (Nat.le_trans hs1 hs3))
  clear hy1 hy2 hup
  generalize upw z0 = us at sy1 sy2 hl0
  go_wp2_with fail
  refine (same_yes w4 _ _ y1 y2 us sy1 sy2 hl0).mono ?_
  rintro e w5 ⟨rfl, q2, rfl⟩
  by_cases h0 : z0 = []
  · obtain rfl : b = true := Hbn.out.2 h0
    have hl' : ((z0.length : Int) == 0) = true := by rw [h0]; rfl
    clear h0
    go_wp2
    go_ret
    exact ⟨rfl, below_drewN hB4 q2⟩
  · obtain rfl : b = false := by
      cases hb : b with
      | false => rfl
      | true => exact absurd (Hbn.out.1 hb) h0
    have hl : 0 < z0.length := List.length_pos_iff.2 h0
    have hl' : ((z0.length : Int) == 0) = false := by rw [beq_eq_false_iff_ne]; omega
    clear h0
    go_wp2
    go_ret
    exact ⟨rfl, below_drewN hB4 q2⟩

end Go.Proofs.Ytpnlindmcomikaa
