/-
  The walk of the law FnExactAppendSeq: it returns true and writes nothing that was there.
-/
import Derived.Test.YtddlfaaeckijnaaSame
import Derived.Test.YtddlfaaeckijnaaImplAppendSeq
import Derived.Test.YtddlfaaeckijnaaJoin
namespace Go.Proofs.Ytddlfaaeckijnaa
open Go.RowKit Go.Shelf

set_option maxHeartbeats 400000 in
theorem fnExactAppendSeq_walk (w : World) (v0 : Value) (z0 : List Int) (a1 : Bool) (v2 : Value) (z2 : List Int) (s0 : SeesI w w.heap.size v0 z0) (b0 : z0.length ≤ 1048576) (_ : ∀ z ∈ z0, (Lit.int .i64 z).wf = true)
    (s2 : SeesI w w.heap.size v2 z2) (b2 : z2.length ≤ 1048576) (_ : ∀ z ∈ z2, (Lit.int .i64 z).wf = true) :
    Calls Try.prog 11 #[v0, .bool a1, v2] w fun e w' => e = .returned (.bool true) ∧ Below w.heap.size w w' := by
  go_enter Try.func11, Try.ntmps11
  go_wp2_with fail
  refine (implAppendSeq_calls w v0 v2 a1 z0 z2 s0 s2 (by omega) _ _ (Lib.hid rfl) (Lib.hid Iff.rfl)).mono ?_
  rintro e w1 ⟨x, b, rfl, hx, hb, hb1⟩
  have s0' := (s0.below hb1).more hb1.size
  have s2' := (s2.below hb1).more hb1.size
  go_wp2_with fail
  refine (specAppendSeq_calls w1 v0 v2 a1 z0 z2 s0' s2' (by omega) _ _ (Lib.hid rfl) (Lib.hid Iff.rfl) (fun W p q hp hq => join_calls W W.heap.size p q z0 z2 hp hq (Nat.le_refl _) (by omega))).mono ?_
  rintro e w2 ⟨y, b', rfl, hy, hb', hb2⟩
  obtain rfl : b = b' := by
    rw [Bool.eq_iff_iff]; exact hb.trans hb'.symm
  have sx := (SeesI.own hx).below hb2
  have sy := SeesI.own hy
  have hl : ((if a1 then [] else z0) ++ z2).length ≤ 1000000000000000000 := by
    rw [List.length_append]; cases a1 <;> simp <;> omega
  clear hx hy hb hb'
  generalize (if a1 then [] else z0) ++ z2 = zs at sx sy hl
  go_wp2_with fail
  refine (same_yes w2 _ _ x y zs sx sy hl).mono ?_
  rintro e w3 ⟨rfl, q, rfl⟩
  cases b
  all_goals
    go_wp2
    go_ret
    exact ⟨rfl, below_drewN (hb1.trans (hb2.mono hb1.size)) q⟩

end Go.Proofs.Ytddlfaaeckijnaa
