/-
  The walk of the law FnExactWalkLater: it returns true and writes nothing that was there.
-/
import Derived.Test.YtddlfaaeckijnaaSame
import Derived.Test.YtddlfaaeckijnaaWalkLater
namespace Go.Proofs.Ytddlfaaeckijnaa
open Go.RowKit Go.Shelf

set_option maxHeartbeats 400000 in
theorem fnExactWalkLater_walk (w : World) (v0 : Value) (z0 : List Int) (a1 a2 : Int) (s0 : SeesI w w.heap.size v0 z0) (b0 : z0.length * 8 ≤ 140737488351232) (_ : ∀ z ∈ z0, (Lit.int .i64 z).wf = true)
    (_ : (Lit.int .i64 a1).wf = true) (_ : (Lit.int .i64 a2).wf = true) :
    Calls Try.prog 8 #[v0, .int .i64 a1, .int .i64 a2] w fun e w' => e = .returned (.bool true) ∧ Below w.heap.size w w' := by
  go_enter Try.func8, Try.ntmps8
  go_wp2_with fail
  refine (walkLater_calls w v0 z0 a1 a2 s0 (by omega)).mono ?_
  rintro e w1 ⟨x, rfl, hx, hb1⟩
  have s1 := s0.below hb1
  go_wp2_with fail
  refine (specWalkLater_calls _ _ v0 z0 a1 a2 s1 hb1.size (by omega)).mono ?_
  rintro e w3 ⟨u, rfl, hu, hb3⟩
  have sx := (SeesI.own hx).below hb3
  have su := SeesI.own hu
  have hl : (putTo z0 a1 a2 z0.length).length ≤ 1000000000000000000 := by rw [putTo_length]; omega
  clear hu hx
  generalize putTo z0 a1 a2 z0.length = zs at sx su hl
  go_wp2_with fail
  refine (same_yes w3 _ _ x u zs sx su hl).mono ?_
  rintro e w4 ⟨rfl, q', rfl⟩
  go_wp2
  go_ret
  exact ⟨rfl, below_drewN (hb1.trans (hb3.mono hb1.size)) q'⟩

end Go.Proofs.Ytddlfaaeckijnaa
