/-
  The walk of the law FnExactWalkValues: it returns true and writes nothing that was there.
-/
import Derived.Test.YtddlfaaeckijnaaSame
import Derived.Test.YtddlfaaeckijnaaWalkValues
import Derived.Test.YtddlfaaeckijnaaSpecWalkValues
namespace Go.Proofs.Ytddlfaaeckijnaa
open Go.RowKit Go.Shelf

set_option maxHeartbeats 400000 in
theorem fnExactWalkValues_walk (w : World) (v0 : Value) (z0 : List Int) (a1 : Int) (s0 : SeesI w w.heap.size v0 z0) (b0 : z0.length * 8 ≤ 140737488351232)
    (_ : ∀ z ∈ z0, (Lit.int .i64 z).wf = true) (_ : (Lit.int .i64 a1).wf = true) :
    Calls Try.prog 6 #[v0, .int .i64 a1] w fun e w' => e = .returned (.bool true) ∧ Below w.heap.size w w' := by
  go_enter Try.func6, Try.ntmps6
  go_wp2_with fail
  refine (walkValues_calls w v0 z0 a1 s0 b0).mono ?_
  rintro e w1 ⟨x, rfl, hx, hb1⟩
  have s1 := (s0.below hb1).more hb1.size
  go_wp2_with fail
  refine (specWalkValues_calls w1 v0 z0 a1 s1 b0).mono ?_
  rintro e w2 ⟨y, rfl, hy, hb2⟩
  have sx := (SeesI.own hx).below hb2
  have sy := SeesI.own hy
  have hl : (z0.take a1.toNat).length ≤ 1000000000000000000 := by rw [List.length_take]; omega
  clear hx hy
  generalize z0.take a1.toNat = zs at sx sy hl
  go_wp2_with fail
  refine (same_yes w2 _ _ x y zs sx sy hl).mono ?_
  rintro e w3 ⟨rfl, q, rfl⟩
  go_wp2_with fail
  go_ret
  exact ⟨rfl, below_drewN (hb1.trans (hb2.mono hb1.size)) q⟩

end Go.Proofs.Ytddlfaaeckijnaa
