/-
  The walk of the law FnSortedAnyOrder: it returns true and writes nothing that was there.
-/
import Derived.Test.YtfagmnjhpipndaaSame
import Derived.Test.YtfagmnjhpipndaaImplSorted
import Derived.Test.YtfagmnjhpipndaaTurned
import Derived.Test.YtfagmnjhpipndaaDrawList
import Derived.Test.YtfagmnjhpipndaaSeven
namespace Go.Proofs.Ytfagmnjhpipndaa
open Go.RowKit Go.Shelf

set_option maxHeartbeats 1000000 in
theorem fnSortedAnyOrder_walk (w : World) (v0 : Value) (z0 : List Int) (s0 : SeesB w w.heap.size v0 z0) (_ : z0.length * 1 ≤ 140737488351232) (f0 : ∀ z ∈ z0, 0 ≤ z ∧ z ≤ 255) :
    Calls Try.prog 6 #[v0] w fun e w' => e = .returned (.bool true) ∧ Below w.heap.size w w' := by
  obtain ⟨A, c, hv, _⟩ := s0.form
  by_cases hbig : (1048576 : Int) < (z0.length : Int)
  · subst hv
    clear s0 f0
    go_enter Try.func6, Try.ntmps6
    go_wp2
    go_ret
    exact ⟨rfl, Below.refl _ _⟩
  · have hd := Lib.hid (drawList_calls w v0 z0 s0 (by omega) f0)
    subst hv
    clear s0 f0
    go_enter Try.func6, Try.ntmps6
    go_wp2_with fail
    refine hd.out.mono ?_
    rintro e w1 ⟨v1, z1, rfl, ⟨s1, l1, _⟩, hb1⟩
    go_wp2_with fail
    refine (implSorted_calls _ _ [7] (sees_seven' w1) (by decide)).mono ?_
    rintro e w2 ⟨o, b2, rfl, ho, _, hb2⟩
    rw [show upw [(7 : Int)] = [7] by decide] at ho
    have so := SeesI.own ho
    have hb2' := (below_seven w1).trans (hb2.mono (by simp))
    have s2 := (s1.below hb2').more hb2'.size
    have hB2 := hb1.trans (hb2'.mono hb1.size)
    clear ho hb2 hb2' hb1 s1
    go_wp2_with fail
    refine (implSorted_calls w2 v1 z1 s2 (by omega)).mono ?_
    rintro e w3 ⟨a, b3, rfl, ha, _, hb3⟩
    have sa := SeesI.own ha
    have s3 := (s2.below hb3).more hb3.size
    have so3 := (so.below hb3).more hb3.size
    have hB3 := hB2.trans (hb3.mono hB2.size)
    clear ha so s2 hB2 hb3
    go_wp2_with fail
    refine (turned_calls w3 w3.heap.size v1 z1 s3 (Nat.le_refl _) (by omega)).mono ?_
    rintro e w4 ⟨t, rfl, ht, hb4⟩
    have st := SeesI.own ht
    have sa4 := (sa.below hb4).more hb4.size
    have so4 := (so3.below hb4).more hb4.size
    have hB4 := hB3.trans (hb4.mono hB3.size)
    have lr : z1.reverse.length ≤ 47 := by rw [List.length_reverse]; exact l1
    clear ht sa so3 s3 hB3 hb4
    go_wp2_with fail
    refine (implSorted_calls w4 t z1.reverse st (by omega)).mono ?_
    rintro e w5 ⟨b, b5, rfl, hbb, _, hb5⟩
    rw [upw_of_perm (List.reverse_perm z1)] at hbb
    have sb := SeesI.own hbb
    have sa5 := (sa4.below hb5).more hb5.size
    have so5 := (so4.below hb5).more hb5.size
    have hB5 := hB4.trans (hb5.mono hB4.size)
    have lu : (upw z1).length ≤ 47 := by rw [upw_length]; exact l1
    clear hbb sa4 so4 st hB4 hb5
    go_wp2_with fail
    refine (implSorted_calls w5 a (upw z1) sa5 (by omega)).mono ?_
    rintro e w6 ⟨c, b6, rfl, hc, _, hb6⟩
    rw [upw_of_perm (upw_perm z1)] at hc
    have sc := SeesI.own hc
    have sa6 := (sa5.below hb6).more hb6.size
    have sb6 := (sb.below hb6).more hb6.size
    have so6 := (so5.below hb6).more hb6.size
    have hB6 := hB5.trans (hb6.mono hB5.size)
    clear hc sa5 sb so5 hB5 hb6
    generalize upw z1 = us at sa6 sb6 sc lu
    go_wp2_with fail
    refine (same_yes _ _ _ o _ [7] (so6.below (below_seven w6)) (sees_seven' w6) (by decide)).mono ?_
    rintro e w7 ⟨rfl, q1, rfl⟩
    have hB7 := below_drewN (hB6.alloc hB6.size (.cells #[.int .i64 7] 3)) q1
    go_wp2_with fail
    refine (same_yes _ _ _ a b us ((sa6.below (below_seven w6)).drewN q1) ((sb6.below (below_seven w6)).drewN q1) (by omega)).mono ?_
    rintro e w8 ⟨rfl, q2, rfl⟩
    go_wp2_with fail
    refine (same_yes _ _ _ a c us ((sa6.below (below_seven w6)).drewN (q1 + q2)) ((sc.below (below_seven w6)).drewN (q1 + q2)) (by omega)).mono ?_
    rintro e w9 ⟨rfl, q3, rfl⟩
    go_wp2
    go_ret
    exact ⟨rfl, below_drewN (hB6.alloc hB6.size (.cells #[.int .i64 7] 3)) _⟩

end Go.Proofs.Ytfagmnjhpipndaa
