/-
  The walk of the law FnExactConcat: it returns true and writes nothing that was there.
-/
import Derived.Test.YtmfmpfcgllpflaaSame
import Derived.Test.YtmfmpfcgllpflaaConcat
namespace Go.Proofs.Ytmfmpfcgllpflaa
open Go.RowKit Go.Shelf

set_option maxHeartbeats 400000 in
theorem fnExactConcat_walk (w : World) (v0 : Value) (z0 : List (List Int)) (s0 : SeesL w w.heap.size v0 z0) (b0 : (flat z0).length + z0.length ≤ 1048576) (_ : ∀ l ∈ z0, ∀ z ∈ l, (Lit.int .i64 z).wf = true) :
    Calls Try.prog 3 #[v0] w fun e w' => e = .returned (.bool true) ∧ Below w.heap.size w w' := by
  go_enter Try.func3, Try.ntmps3
  go_wp2_with fail
  refine (implConcat_calls w _ v0 z0 s0 (Nat.le_refl _) (by omega) (by omega)).mono ?_
  rintro e w1 ⟨x, b1, rfl, hx, hn1, hb1⟩
  have hs1 := hb1.size
  go_wp2_with fail
  refine (specConcat_calls w1 _ v0 z0 (s0.below hb1) hs1 (by omega) (by omega)).mono ?_
  rintro e w2 ⟨y, b2, rfl, hy, hn2, hb2⟩
  have sx := (SeesI.own hx).below hb2
  have sy := SeesI.own hy
  obtain rfl : b1 = b2 := by
    have h := hn1.trans hn2.symm
    cases b1 <;> cases b2 <;> simp_all
  have hl : (flat z0).length ≤ 1048576 := by omega
  clear hx hy hn1 hn2
  generalize flat z0 = zs at sx sy hl
  go_wp2_with fail
  refine (same_yes w2 _ _ x y zs sx sy (by omega)).mono ?_
  rintro e w3 ⟨rfl, q, rfl⟩
  go_wp2
  go_ret
  exact ⟨by simp, below_drewN (hb1.trans (hb2.mono hs1)) q⟩

end Go.Proofs.Ytmfmpfcgllpflaa
