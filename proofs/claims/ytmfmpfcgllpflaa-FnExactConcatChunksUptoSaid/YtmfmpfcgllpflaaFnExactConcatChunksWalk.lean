/-
  The walk of the law FnExactConcatChunks: it returns true and writes nothing that was there.
-/
import Derived.Test.YtmfmpfcgllpflaaSame
import Derived.Test.YtmfmpfcgllpflaaConcatChunks
namespace Go.Proofs.Ytmfmpfcgllpflaa
open Go.RowKit Go.Shelf

set_option maxHeartbeats 400000 in
theorem fnExactConcatChunks_walk (w : World) (v0 : Value) (z0 : List Int) (a1 : Int) (s0 : SeesI w w.heap.size v0 z0) (b0 : z0.length ≤ 1048576) (_ : ∀ z ∈ z0, (Lit.int .i64 z).wf = true) (f1 : (Lit.int .i64 a1).wf = true) :
    Calls Try.prog 9 #[v0, .int .i64 a1] w fun e w' => e = .returned (.bool true) ∧ Below w.heap.size w w' := by
  by_cases hlt : a1 < 1
  · obtain ⟨A0, c0, rfl, _⟩ := s0.form
    have hc := Lib.hid (concatChunks_never w A0 z0.length c0 a1 hlt)
    go_enter Try.func9, Try.ntmps9
    go_wp2_with fail
    refine hc.out.mono ?_
    rintro e w1 ⟨x, rfl, hx, hb1⟩
    obtain ⟨Ax, cx, rfl, _⟩ := own_form hx
    clear hx
    go_wp2
    go_ret
    exact ⟨by simp, hb1⟩
  · obtain ⟨m, rfl⟩ := Int.eq_ofNat_of_zero_le (show 0 ≤ a1 by omega)
    have hc := Lib.hid (concatChunks_calls w v0 z0 m s0 (by omega) (by have := wf_le f1; omega) (by omega))
    go_enter Try.func9, Try.ntmps9
    go_wp2_with fail
    refine hc.out.mono ?_
    rintro e w1 ⟨x, rfl, hx, hb1⟩
    have sx := SeesI.own hx
    have sy := s0.below hb1
    clear hx
    go_wp2_with fail
    refine (same_yes w1 _ _ x v0 z0 sx sy (by omega)).mono ?_
    rintro e w2 ⟨rfl, q, rfl⟩
    go_wp2
    go_ret
    exact ⟨rfl, below_drewN hb1 q⟩

end Go.Proofs.Ytmfmpfcgllpflaa
