/-
  The walk of the law FnExactSortedStableFunc: it returns true and writes nothing that was there.
-/
import Derived.Test.YtpnlindmcomikaaSame
import Derived.Test.YtpnlindmcomikaaSortedStable
import Derived.Test.YtpnlindmcomikaaSpecStable
namespace Go.Proofs.Ytpnlindmcomikaa
open Go.RowKit Go.Shelf

set_option maxRecDepth 100000 in
set_option maxHeartbeats 1000000 in
theorem fnExactSortedStableFunc_walk (w : World) (v0 : Value) (z0 : List Int) (v1 : Value) (z1 : List Int) (s0 : SeesI w w.heap.size v0 z0) (b0 : z0.length * 8 ≤ 140737488351232) (_ : ∀ z ∈ z0, (Lit.int .i64 z).wf = true)
    (s1 : SeesI w w.heap.size v1 z1) (b1 : z1.length * 8 ≤ 140737488351232) (_ : ∀ z ∈ z1, (Lit.int .i64 z).wf = true) :
    Calls Try.prog 4 #[v0, v1] w fun e w' => e = .returned (.bool true) ∧ Below w.heap.size w w' := by
  have hc := Lib.hid (implSortedStable_calls w v0 v1 z0 z1 s0 s1 (by omega) (by omega))
  obtain ⟨A0, c0, e0, _, _⟩ := s0.form
  subst e0
  go_enter Try.func4, Try.ntmps4
  go_wp2_with fail
  refine hc.out.mono ?_
  rintro e w1 ⟨x, b, rfl, hx, hbn, hb1⟩
  have hs1 := hb1.size
  have Hbn := Lib.hid hbn
  have sx := SeesI.own hx
  have t0 := s0.below hb1
  have t1 := s1.below hb1
  have hl0 : (stb z1 z0).length ≤ 1000000000000000000 := by rw [stb_length]; omega
  clear hx hbn hc
  go_wp2_with fail
  refine (specStable_calls w1 w.heap.size _ v1 z0 z1 t0 t1 (by omega) hs1 (by omega)).mono ?_
  rintro e w2 ⟨y, rfl, hy, hb2⟩
  have sx2 := sx.below hb2
  have sy := SeesI.own hy
  have hB2 := hb1.trans (hb2.mono hs1)
  clear hy
  generalize stb z1 z0 = us at sx2 sy hl0
  go_wp2_with fail
  refine (same_yes w2 _ _ x y us sx2 sy hl0).mono ?_
  rintro e w5 ⟨rfl, q2, rfl⟩
  by_cases h0 : z0 = []
  · obtain rfl : b = true := Hbn.out.2 h0
    have hl' : ((z0.length : Int) == 0) = true := by rw [h0]; rfl
    clear h0
    go_wp2
    go_ret
    exact ⟨rfl, below_drewN hB2 q2⟩
  · obtain rfl : b = false := by
      cases hb : b with
      | false => rfl
      | true => exact absurd (Hbn.out.1 hb) h0
    have hl : 0 < z0.length := List.length_pos_iff.2 h0
    have hl' : ((z0.length : Int) == 0) = false := by rw [beq_eq_false_iff_ne]; omega
    clear h0
    go_wp2
    go_ret
    exact ⟨rfl, below_drewN hB2 q2⟩

end Go.Proofs.Ytpnlindmcomikaa
