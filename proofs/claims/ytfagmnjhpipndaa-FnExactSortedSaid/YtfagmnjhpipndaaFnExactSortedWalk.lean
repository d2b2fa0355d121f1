/-
  The walk of the law FnExactSorted: it returns true and writes nothing that was there.
-/
import Derived.Test.YtfagmnjhpipndaaSame
import Derived.Test.YtfagmnjhpipndaaImplSorted
import Derived.Test.YtfagmnjhpipndaaSpecUpward
namespace Go.Proofs.Ytfagmnjhpipndaa
open Go.RowKit Go.Shelf

set_option maxHeartbeats 400000 in
theorem fnExactSorted_walk (w : World) (v0 : Value) (z0 : List Int) (s0 : SeesI w w.heap.size v0 z0) (b0 : z0.length * 8 ≤ 140737488351232) (_ : ∀ z ∈ z0, (Lit.int .i64 z).wf = true) :
    Calls Try.prog 5 #[v0] w fun e w' => e = .returned (.bool true) ∧ Below w.heap.size w w' := by
  obtain ⟨A, c, rfl, _⟩ := s0.form
  go_enter Try.func5, Try.ntmps5
  go_wp2_with fail
  refine (implSorted_calls w _ z0 s0 (by omega)).mono ?_
  rintro e w1 ⟨x, b, rfl, hx, hb, hb1⟩
  have hs1 := hb1.size
  have Hb := Lib.hid hb
  clear hb
  go_wp2_with fail
  refine (specUpward_calls w1 w.heap.size _ z0 (s0.below hb1) hs1 (by omega)).mono ?_
  rintro e w2 ⟨y, rfl, hy, hb2⟩
  have sx := (SeesI.own hx).below hb2
  have sy := SeesI.own hy
  have hl0 : (upw z0).length ≤ 1000000000000000000 := by rw [upw_length]; omega
  clear hx hy
  generalize upw z0 = us at sx sy hl0
  have hb1 := hb1.trans (hb2.mono hs1)
  go_wp2_with fail
  refine (same_yes w2 _ _ x y us sx sy hl0).mono ?_
  rintro e w3 ⟨rfl, q, rfl⟩
  by_cases h0 : z0 = []
  · obtain rfl : b = true := Hb.out.2 h0
    have hl : z0.length = 0 := by rw [h0]; rfl
    have hl' : ((z0.length : Int) == 0) = true := by rw [hl]; rfl
    clear hl h0
    go_wp2
    go_ret
    exact ⟨rfl, below_drewN hb1 q⟩
  · obtain rfl : b = false := by
      cases hb : b with
      | false => rfl
      | true => exact absurd (Hb.out.1 hb) h0
    have hl : 0 < z0.length := List.length_pos_iff.2 h0
    have hl' : ((z0.length : Int) == 0) = false := by rw [beq_eq_false_iff_ne]; omega
    clear h0
    go_wp2
    go_ret
    exact ⟨rfl, below_drewN hb1 q⟩

end Go.Proofs.Ytfagmnjhpipndaa
