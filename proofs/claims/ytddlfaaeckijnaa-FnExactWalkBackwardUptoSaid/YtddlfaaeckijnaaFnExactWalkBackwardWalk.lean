/-
  The walk of the law FnExactWalkBackward: it returns true and writes nothing that was there.
-/
import Derived.Test.YtddlfaaeckijnaaSamePairs
import Derived.Test.YtddlfaaeckijnaaWalkBackward
import Derived.Test.YtddlfaaeckijnaaSpecWalkBackward
namespace Go.Proofs.Ytddlfaaeckijnaa
open Go.RowKit Go.Shelf

set_option maxHeartbeats 400000 in
theorem fnExactWalkBackward_walk (w : World) (v0 : Value) (z0 : List Int) (a1 : Int) (s0 : SeesI w w.heap.size v0 z0) (b0 : z0.length ≤ 1048576) (f0 : ∀ z ∈ z0, (Lit.int .i64 z).wf = true) (_ : (Lit.int .i64 a1).wf = true) :
    Calls Try.prog 5 #[v0, .int .i64 a1] w fun e w' => e = .returned (.bool true) ∧ Below w.heap.size w w' := by
  go_enter Try.func5, Try.ntmps5
  go_wp2_with fail
  refine (walkBackward_calls w v0 z0 a1 s0 (by omega) f0).mono ?_
  rintro e w1 ⟨x, rfl, hx, hb1⟩
  go_wp2_with fail
  refine (specWalkBackward_calls w1 _ v0 z0 a1 (s0.below hb1) hb1.size (by omega)).mono ?_
  rintro e w2 ⟨y, rfl, hy, hb2⟩
  have sx := (SeesP.own hx).below hb2
  have sy := SeesP.own hy
  have hl : ((backOf z0).take a1.toNat).length ≤ 100000000000000000 := by rw [List.length_take, backOf_length]; omega
  clear hx hy
  generalize (backOf z0).take a1.toNat = zs at sx sy hl
  go_wp2_with fail
  refine (samePairs_yes w2 _ _ x y zs sx sy hl).mono ?_
  rintro e w3 ⟨rfl, q, rfl⟩
  go_wp2_with fail
  go_ret
  exact ⟨rfl, below_drewN (hb1.trans (hb2.mono hb1.size)) q⟩

end Go.Proofs.Ytddlfaaeckijnaa
