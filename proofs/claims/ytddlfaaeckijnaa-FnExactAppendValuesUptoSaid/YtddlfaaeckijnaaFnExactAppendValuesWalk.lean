/-
  The walk of the law FnExactAppendValues: it returns true and writes nothing that was there.
-/
import Derived.Test.YtddlfaaeckijnaaSame
import Derived.Test.YtddlfaaeckijnaaAppendValues
import Derived.Test.YtddlfaaeckijnaaJoin
namespace Go.Proofs.Ytddlfaaeckijnaa
open Go.RowKit Go.Shelf

set_option maxHeartbeats 400000 in
theorem fnExactAppendValues_walk (w : World) (v0 : Value) (z0 : List Int) (v1 : Value) (z1 : List Int) (s0 : SeesI w w.heap.size v0 z0) (b0 : z0.length ≤ 1048576) (_ : ∀ z ∈ z0, (Lit.int .i64 z).wf = true)
    (s1 : SeesI w w.heap.size v1 z1) (b1 : z1.length ≤ 1048576) (_ : ∀ z ∈ z1, (Lit.int .i64 z).wf = true) :
    Calls Try.prog 3 #[v0, v1] w fun e w' => e = .returned (.bool true) ∧ Below w.heap.size w w' := by
  go_enter Try.func3, Try.ntmps3
  go_wp2_with fail
  refine (appendValues_calls w v0 v1 z0 z1 s0 s1 (by omega)).mono ?_
  rintro e w1 ⟨x, rfl, hx, hb1⟩
  go_wp2_with fail
  refine (join_calls w1 w.heap.size v0 v1 z0 z1 (s0.below hb1) (s1.below hb1) hb1.size (by omega)).mono ?_
  rintro e w2 ⟨y, rfl, hy, hb2⟩
  have sx := (SeesI.own hx).below hb2
  have sy := SeesI.own hy
  have hl : (z0 ++ z1).length ≤ 1000000000000000000 := by rw [List.length_append]; omega
  clear hx hy
  generalize z0 ++ z1 = zs at sx sy hl
  go_wp2_with fail
  refine (same_yes w2 _ _ x y zs sx sy hl).mono ?_
  rintro e w3 ⟨rfl, q, rfl⟩
  go_wp2_with fail
  go_ret
  exact ⟨rfl, below_drewN (hb1.trans (hb2.mono hb1.size)) q⟩

end Go.Proofs.Ytddlfaaeckijnaa
