/-
  The walk of the law FnSortedOfChunks: it returns true and writes nothing that was there.
-/
import Derived.Test.YtfagmnjhpipndaaSame
import Derived.Test.YtfagmnjhpipndaaConcatChunks
import Derived.Test.YtfagmnjhpipndaaDrawSized
import Derived.Test.YtfagmnjhpipndaaImplSorted
import Derived.Test.YtfagmnjhpipndaaSortedValues
namespace Go.Proofs.Ytfagmnjhpipndaa
open Go.RowKit Go.Shelf

set_option maxRecDepth 100000 in
set_option maxHeartbeats 1000000 in
theorem fnSortedOfChunks_walk (w : World) (v0 : Value) (z0 : List Int) (s0 : SeesB w w.heap.size v0 z0) (_ : z0.length * 1 ≤ 140737488351232) (f0 : ∀ z ∈ z0, 0 ≤ z ∧ z ≤ 255) :
    Calls Try.prog 12 #[v0] w fun e w' => e = .returned (.bool true) ∧ Below w.heap.size w w' := by
  obtain ⟨A, c, hv, _⟩ := s0.form
  by_cases hbig : (1048576 : Int) < (z0.length : Int)
  · subst hv
    clear s0 f0
    go_enter Try.func12, Try.ntmps12
    go_wp2
    go_ret
    exact ⟨rfl, Below.refl _ _⟩
  · have hd := Lib.hid (drawSized_calls w v0 z0 s0 (by omega) f0)
    subst hv
    clear s0 f0
    go_enter Try.func12, Try.ntmps12
    go_wp2_with fail
    refine hd.out.mono ?_
    rintro e w1 ⟨v1, z1, n, rfl, ⟨s1, l1, _⟩, hnw, hB1⟩
    have hnl := wf_le hnw
    clear hnw
    obtain ⟨A1, c1, e1, _, _⟩ := s1.form
    by_cases hlt : n < 1
    · subst e1
      have hc := Lib.hid (concatChunks_never w1 A1 z1.length c1 n hlt)
      go_wp2_with fail
      refine hc.out.mono ?_
      rintro e w2 ⟨x, rfl, hx, hb2⟩
      obtain ⟨Ax, cx, rfl, _⟩ := own_form hx
      clear hx
      go_wp2
      go_ret
      exact ⟨by simp, hB1.trans (hb2.mono hB1.size)⟩
    · obtain ⟨m, rfl⟩ := Int.eq_ofNat_of_zero_le (show 0 ≤ n by omega)
      have hc := Lib.hid (concatChunks_calls w1 v1 z1 m s1 (by omega) (by omega) (by omega))
      subst e1
      go_wp2_with fail
      refine hc.out.mono ?_
      rintro e w2 ⟨x, rfl, hx, hb2⟩
      have sx := SeesI.own hx
      have s2 := (s1.below hb2).more hb2.size
      have hB2 := hB1.trans (hb2.mono hB1.size)
      clear hx hc s1 hb2 hB1
      go_wp2_with fail
      refine (implSorted_calls w2 x z1 sx (by omega)).mono ?_
      rintro e w3 ⟨a, b3, rfl, ha, _, hb3⟩
      have sa := SeesI.own ha
      have s3 := (s2.below hb3).more hb3.size
      have hB3 := hB2.trans (hb3.mono hB2.size)
      clear ha s2 hb3 hB2
      go_wp2_with fail
      refine (sortedValues_calls w3 _ z1 s3 (by omega)).mono ?_
      rintro e w4 ⟨y, u, rfl, _, hu, hb4⟩
      have su := SeesI.own hu
      have sa4 := sa.below hb4
      have hB4 := hB3.trans (hb4.mono hB3.size)
      have lu := upw_length z1
      have lu2 : (upw z1).length ≤ 47 := by omega
      rw [lu] at hu
      obtain ⟨Au, cu, rfl, _⟩ := own_form hu
      clear hu hb4 hB3 s3 lu
      generalize upw z1 = us at su sa4 lu2
      go_wp2_with fail
      refine (same_yes w4 _ _ a _ us sa4 su (by omega)).mono ?_
      rintro e w5 ⟨rfl, q, rfl⟩
      go_wp2
      go_ret
      exact ⟨by simp, below_drewN hB4 q⟩

end Go.Proofs.Ytfagmnjhpipndaa
