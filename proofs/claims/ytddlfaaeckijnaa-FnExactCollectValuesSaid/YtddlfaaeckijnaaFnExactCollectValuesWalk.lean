/-
  The walk of the law FnExactCollectValues: it returns true and writes nothing that was there.
-/
import Derived.Test.YtddlfaaeckijnaaSame
import Derived.Test.YtddlfaaeckijnaaImplCollectValues
namespace Go.Proofs.Ytddlfaaeckijnaa
open Go.RowKit Go.Shelf

set_option maxHeartbeats 400000 in
theorem fnExactCollectValues_walk (w : World) (v0 : Value) (z0 : List Int) (s0 : SeesI w w.heap.size v0 z0) (b0 : z0.length * 8 ≤ 140737488351232) (_ : ∀ z ∈ z0, (Lit.int .i64 z).wf = true) :
    Calls Try.prog 10 #[v0] w fun e w' => e = .returned (.bool true) ∧ Below w.heap.size w w' := by
  obtain ⟨A, c, rfl, _⟩ := s0.form
  go_enter Try.func10, Try.ntmps10
  go_wp2_with fail
  refine (implCollectValues_calls w _ z0 s0 (by omega)).mono ?_
  rintro e w1 ⟨x, b, rfl, hx, hb, hb1⟩
  have sx := SeesI.own hx
  have sy := s0.below hb1
  clear hx
  have Hb := Lib.hid hb
  clear hb
  go_wp2_with fail
  refine (same_yes w1 _ _ x _ z0 sx sy (by omega)).mono ?_
  rintro e w3 ⟨rfl, q, rfl⟩
  by_cases h0 : z0 = []
  · obtain rfl : b = true := Hb.out.2 h0
    have hl : z0.length = 0 := by rw [h0]; rfl
    have hl' : ((z0.length : Int) == 0) = true := by rw [hl]; rfl
    clear hl h0
    go_wp2
    go_ret
    exact ⟨rfl, below_drewN hb1 q⟩
  · obtain rfl : b = false := by
      cases hb : b with
      | false => rfl
      | true => exact absurd (Hb.out.1 hb) h0
    have hl : 0 < z0.length := List.length_pos_iff.2 h0
    have hl' : ((z0.length : Int) == 0) = false := by rw [beq_eq_false_iff_ne]; omega
    clear h0
    go_wp2
    go_ret
    exact ⟨rfl, below_drewN hb1 q⟩

end Go.Proofs.Ytddlfaaeckijnaa
