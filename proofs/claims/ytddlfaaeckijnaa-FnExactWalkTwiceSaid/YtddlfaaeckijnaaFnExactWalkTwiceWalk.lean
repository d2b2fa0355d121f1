/-
  The walk of the law FnExactWalkTwice: it returns true and writes nothing that was there.
-/
import Derived.Test.YtddlfaaeckijnaaSame
import Derived.Test.YtddlfaaeckijnaaWalkTwice
import Derived.Test.YtddlfaaeckijnaaSpecWalkTwice
namespace Go.Proofs.Ytddlfaaeckijnaa
open Go.RowKit Go.Shelf

set_option maxHeartbeats 400000 in
theorem fnExactWalkTwice_walk (w : World) (v0 : Value) (z0 : List Int) (a1 : Int) (s0 : SeesI w w.heap.size v0 z0) (b0 : z0.length * 8 ≤ 140737488351232) (_ : ∀ z ∈ z0, (Lit.int .i64 z).wf = true) (_ : (Lit.int .i64 a1).wf = true) :
    Calls Try.prog 12 #[v0, .int .i64 a1] w fun e w' => e = .returned (.bool true) ∧ Below w.heap.size w w' := by
  go_enter Try.func12, Try.ntmps12
  go_wp2_with fail
  refine (walkTwice_calls w v0 z0 a1 s0 b0).mono ?_
  rintro e w1 ⟨x1, x2, rfl, sx1, sx2, hb1⟩
  go_wp2_with fail
  refine (specWalkTwice_calls w1 v0 z0 a1 ((s0.below hb1).more hb1.size) b0).mono ?_
  rintro e w2 ⟨y1, y2, rfl, sy1, sy2, hb2⟩
  have hl : (z0.take a1.toNat).length ≤ 1000000000000000000 := by rw [List.length_take]; omega
  have sx1' := sx1.below hb2
  have sx2' := sx2.below hb2
  clear sx1 sx2
  generalize z0.take a1.toNat = zs at sx1' sy1 hl
  go_wp2_with fail
  refine (same_yes w2 _ _ x1 y1 zs sx1' sy1 hl).mono ?_
  rintro e w3 ⟨rfl, q, rfl⟩
  go_wp2_with fail
  refine (same_yes _ _ _ x2 y2 z0 (sx2'.drewN q) (sy2.drewN q) (by omega)).mono ?_
  rintro e w4 ⟨rfl, q', rfl⟩
  go_wp2
  go_ret
  exact ⟨rfl, below_drewN (hb1.trans (hb2.mono hb1.size)) _⟩

end Go.Proofs.Ytddlfaaeckijnaa
