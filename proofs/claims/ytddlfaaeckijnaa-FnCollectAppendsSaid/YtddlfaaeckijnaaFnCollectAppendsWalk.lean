/-
  The walk of the law FnCollectAppends: it returns true and writes nothing that was there.
-/
import Derived.Test.YtddlfaaeckijnaaSame
import Derived.Test.YtddlfaaeckijnaaImplAppendSeq
import Derived.Test.YtddlfaaeckijnaaImplCollect
import Derived.Test.YtddlfaaeckijnaaJoin
import Derived.Test.YtddlfaaeckijnaaDrawLists
namespace Go.Proofs.Ytddlfaaeckijnaa
open Go.RowKit Go.Shelf

/-- [7] -/
theorem sees_seven' (w : World) : SeesI (w.alloc (.cells #[.int .i64 7] 3)) (w.alloc (.cells #[.int .i64 7] 3)).heap.size (.slice (some ⟨w.heap.size, 0, none⟩) 1 1) [7] :=
  SeesI.own (own_lit w 0 [7] (Nat.zero_le _) (by decide))

set_option maxHeartbeats 1000000 in
theorem fnCollectAppends_walk (w : World) (v0 : Value) (z0 : List Int) (s0 : SeesB w w.heap.size v0 z0) (b0 : z0.length * 1 ≤ 140737488351232) (f0 : ∀ z ∈ z0, 0 ≤ z ∧ z ≤ 255) :
    Calls Try.prog 14 #[v0] w fun e w' => e = .returned (.bool true) ∧ Below w.heap.size w w' := by
  obtain ⟨A, c, hv, _⟩ := s0.form
  by_cases hlong : 1048576 < z0.length
  · rw [hv]
    clear s0 f0 hv
    go_enter Try.func14, Try.ntmps14
    go_wp2
    go_ret
    exact ⟨rfl, Below.refl _ _⟩
  · have hd := Lib.hid (drawThreeLists_calls w v0 z0 s0 (by omega) f0)
    subst hv
    clear s0 f0
    go_enter Try.func14, Try.ntmps14
    go_wp2_with fail
    refine hd.out.mono ?_
    rintro e w1 ⟨v1, v2, v3, z1, z2, z3, rfl, ⟨s1, l1, _⟩, ⟨s2, l2, _⟩, ⟨s3, l3, _⟩, hb1⟩
    go_wp2_with fail
    refine (implAppendSeq_calls w1 v1 v2 false z1 z2 s1 s2 (by omega) (z1 ++ z2) False (Lib.hid rfl) (Lib.hid (by simp))).mono ?_
    rintro e w2 ⟨x, b2, rfl, hx, _, hb2⟩
    have sx := SeesI.own hx
    have s1 := (s1.below hb2).more hb2.size
    have s2 := (s2.below hb2).more hb2.size
    have s3 := (s3.below hb2).more hb2.size
    have hB2 := hb1.trans (hb2.mono hb1.size)
    have lx : (z1 ++ z2).length ≤ 94 := by rw [List.length_append]; omega
    clear hx hb1 hb2
    go_wp2_with fail
    refine (implAppendSeq_calls w2 x v3 false (z1 ++ z2) z3 sx s3 (by omega) (z1 ++ z2 ++ z3) False (Lib.hid rfl) (Lib.hid (by simp))).mono ?_
    rintro e w3 ⟨y, b3, rfl, hy, _, hb3⟩
    have sy := SeesI.own hy
    have s1 := (s1.below hb3).more hb3.size
    have s2 := (s2.below hb3).more hb3.size
    have s3 := (s3.below hb3).more hb3.size
    have hB3 := hB2.trans (hb3.mono hB2.size)
    clear hy hB2 hb3 sx
    go_wp2_with fail
    refine (join_calls w3 w3.heap.size v2 v3 z2 z3 s2 s3 (Nat.le_refl _) (by omega)).mono ?_
    rintro e w4 ⟨j, rfl, hj, hb4⟩
    have sj := SeesI.own hj
    have sy := (sy.below hb4).more hb4.size
    have s1 := (s1.below hb4).more hb4.size
    have s2 := (s2.below hb4).more hb4.size
    have s3 := (s3.below hb4).more hb4.size
    have hB4 := hB3.trans (hb4.mono hB3.size)
    have lj : (z2 ++ z3).length ≤ 94 := by rw [List.length_append]; omega
    clear hj hB3 hb4
    go_wp2_with fail
    refine (implAppendSeq_calls w4 v1 j false z1 (z2 ++ z3) s1 sj (by omega) (z1 ++ z2 ++ z3) False (Lib.hid (by simp)) (Lib.hid (by simp))).mono ?_
    rintro e w5 ⟨z, b5, rfl, hz, _, hb5⟩
    have sz := SeesI.own hz
    have sy := (sy.below hb5).more hb5.size
    have s1 := (s1.below hb5).more hb5.size
    have s2 := (s2.below hb5).more hb5.size
    have s3 := (s3.below hb5).more hb5.size
    have hB5 := hB4.trans (hb5.mono hB4.size)
    clear hz hB4 hb5 sj
    go_wp2_with fail
    refine (join_calls w5 w5.heap.size v1 v2 z1 z2 s1 s2 (Nat.le_refl _) (by omega)).mono ?_
    rintro e w6 ⟨k, rfl, hk, hb6⟩
    have sk := SeesI.own hk
    have sy := (sy.below hb6).more hb6.size
    have sz := (sz.below hb6).more hb6.size
    have s3 := (s3.below hb6).more hb6.size
    have hB6 := hB5.trans (hb6.mono hB5.size)
    clear hk hB5 hb6 s1 s2
    go_wp2_with fail
    refine (join_calls w6 w6.heap.size k v3 (z1 ++ z2) z3 sk s3 (Nat.le_refl _) (by omega)).mono ?_
    rintro e w7 ⟨m, rfl, hm, hb7⟩
    have sm := SeesI.own hm
    have sy := (sy.below hb7).more hb7.size
    have sz := (sz.below hb7).more hb7.size
    have hB7 := hB6.trans (hb7.mono hB6.size)
    have lm : (z1 ++ z2 ++ z3).length ≤ 141 := by rw [List.length_append]; omega
    clear hm hB6 hb7 s3 sk
    generalize z1 ++ z2 ++ z3 = zs at sm sy sz lm
    go_wp2_with fail
    refine (implCollect_calls w7 m zs sm (by omega)).mono ?_
    rintro e w8 ⟨cv, b8, rfl, hc, _, hb8⟩
    have sc := SeesI.own hc
    have sy := (sy.below hb8).more hb8.size
    have sz := (sz.below hb8).more hb8.size
    have hB8 := hB7.trans (hb8.mono hB7.size)
    clear hc hB7 hb8 sm
    go_wp2_with fail
    refine (implCollect_calls _ _ [7] (sees_seven' w8) (by decide)).mono ?_
    rintro e w9 ⟨o, b9, rfl, ho, _, hb9⟩
    have so := SeesI.own ho
    have hb9' := ((Below.refl w8.heap.size w8).alloc (Nat.le_refl _) (.cells #[.int .i64 7] 3)).trans (hb9.mono (by simp))
    have sy := (sy.below hb9').more hb9'.size
    have sz := (sz.below hb9').more hb9'.size
    have sc := (sc.below hb9').more hb9'.size
    have hB9 := hB8.trans (hb9'.mono hB8.size)
    clear ho hB8 hb9 hb9'
    go_wp2_with fail
    refine (same_yes w9 _ _ y z zs sy sz (by omega)).mono ?_
    rintro e w10 ⟨rfl, q1, rfl⟩
    go_wp2_with fail
    refine (same_yes _ _ _ y cv zs (sy.drewN q1) (sc.drewN q1) (by omega)).mono ?_
    rintro e w11 ⟨rfl, q2, rfl⟩
    go_wp2_with fail
    have so' := (so.drewN (q1 + q2)).below ((Below.refl w9.heap.size (w9.drewN (q1 + q2))).alloc (Nat.le_refl _) (.cells #[.int .i64 7] 3))
    refine (same_yes _ _ _ o _ [7] so' (sees_seven' (w9.drewN (q1 + q2))) (by decide)).mono ?_
    rintro e w12 ⟨rfl, q3, rfl⟩
    go_wp2
    go_ret
    exact ⟨rfl, below_drewN ((below_drewN hB9 (q1 + q2)).alloc hB9.size _) _⟩

end Go.Proofs.Ytddlfaaeckijnaa
