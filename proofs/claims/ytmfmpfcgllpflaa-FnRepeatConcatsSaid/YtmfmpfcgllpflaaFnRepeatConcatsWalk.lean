/-
  The walk of the law FnRepeatConcats: it returns true and writes nothing that was there.
-/
import Derived.Test.YtmfmpfcgllpflaaFnConcatAppendsWalk
import Derived.Test.YtmfmpfcgllpflaaImplRepeat
import Derived.Test.YtmfmpfcgllpflaaDrawCount
namespace Go.Proofs.Ytmfmpfcgllpflaa
open Go.RowKit Go.Shelf

set_option maxRecDepth 100000 in
set_option maxHeartbeats 2000000 in
theorem fnRepeatConcats_walk (w : World) (v0 : Value) (z0 : List Int) (s0 : SeesB w w.heap.size v0 z0) (_ : z0.length * 1 ≤ 140737488351232) (f0 : ∀ z ∈ z0, 0 ≤ z ∧ z ≤ 255) :
    Calls Try.prog 11 #[v0] w fun e w' => e = .returned (.bool true) ∧ Below w.heap.size w w' := by
  obtain ⟨A, c, hv, _⟩ := s0.form
  by_cases hbig : (1048576 : Int) < (z0.length : Int)
  · subst hv
    clear s0 f0
    go_enter Try.func11, Try.ntmps11
    go_wp2
    go_ret
    exact ⟨rfl, Below.refl _ _⟩
  · have hd := Lib.hid (drawCount_calls w v0 z0 s0 (by omega) f0)
    subst hv
    clear s0 f0
    go_enter Try.func11, Try.ntmps11
    go_wp2_with fail
    refine hd.out.mono ?_
    rintro e w1 ⟨v1, z1, n, rfl, ⟨s1, l1, _⟩, hB1⟩
    by_cases hn0 : n < 0
    · have hfl3 := Lib.hid (show rep z1 4 = rep z1 3 ++ z1 by rw [show 4 = 3 + 1 from rfl, rep_add, rep_one])
      have lf1 : (rep z1 4).length ≤ 4800 := by rw [rep_length]; have := Nat.mul_le_mul (show 4 ≤ 101 by decide) l1; omega
      have lf0 : (rep z1 3).length ≤ 4800 := by rw [rep_length]; have := Nat.mul_le_mul (show 3 ≤ 101 by decide) l1; omega
      have hfl := Lib.hid (show flat [rep z1 3, z1] = rep z1 4 by rw [hfl3.out]; simp [flat])
      have hr1 := Lib.hid (implRepeat_calls w1 v1 z1 4 s1 (by rw [← rep_length]; omega) (by omega) (by omega))
      obtain ⟨A1, c1, e1, _, _⟩ := s1.form
      subst e1
      go_wp2_with fail
      refine hr1.out.mono ?_
      rintro e w2 ⟨g2, rfl, ha, hb2⟩
      have sa := SeesI.own ha
      have s12 := (s1.below hb2).more hb2.size
      have hB2 := hB1.trans (hb2.mono hB1.size)
      have hr2 := Lib.hid (implRepeat_calls w2 _ z1 3 s12 (by rw [← rep_length]; omega) (by omega) (by omega))
      clear ha hr1 hb2 hB1 s1
      go_wp2_with fail
      refine hr2.out.mono ?_
      rintro e w3 ⟨g3, rfl, hb, hb3⟩
      have sb := SeesI.own hb
      have sa3 := (sa.below hb3).more hb3.size
      have s13 := (s12.below hb3).more hb3.size
      have hB3 := hB2.trans (hb3.mono hB2.size)
      clear hb hr2 hb3 hB2 s12 sa
      have hc := Lib.hid (implConcat_calls _ _ _ [rep z1 3, z1] (sees_two sb s13) (Nat.le_refl _) (by rw [hfl.out]; omega) (by simp))
      have hba := (Below.refl w3.heap.size w3).alloc (Nat.le_refl _) (.cells #[.slice (some ⟨g3, 0, none⟩) (rep z1 3).length (rep z1 3).length, .slice A1 z1.length c1] 23)
      go_wp2_with fail
      refine hc.out.mono ?_
      rintro e w4 ⟨cv, b4, rfl, hcv, _, hb4⟩
      rw [hfl.out] at hcv
      have sc := SeesI.own hcv
      have hb34 := hba.trans (hb4.mono (by simp))
      have sa4 := (sa3.below hb34).more hb34.size
      have hB4 := hB3.trans (hb34.mono hB3.size)
      clear hcv hc hb4 hba sa3 hb34 hB3 sb s13
      have hr7 := Lib.hid (implRepeat_calls _ _ [7] 1 (sees_seven' w4) (by decide) (by decide) (by decide))
      go_wp2_with fail
      refine hr7.out.mono ?_
      rintro e w5 ⟨g5, rfl, h7, hb5⟩
      rw [show rep [(7 : Int)] 1 = [7] from rfl] at h7 ⊢
      have s7 := SeesI.own h7
      have hb45 := (below_seven w4).trans (hb5.mono (by simp))
      have sa5 := (sa4.below hb45).more hb45.size
      have sc5 := (sc.below hb45).more hb45.size
      have hB5 := hB4.trans (hb45.mono hB4.size)
      clear h7 hr7 hb5 hb45 sa4 sc hB4
      go_wp2_with fail
      refine (same_yes w5 _ _ _ cv _ sa5 sc5 (by omega)).mono ?_
      rintro e w6 ⟨rfl, q, rfl⟩
      go_wp2_with fail
      refine (same_yes _ _ _ _ _ [7] ((s7.drewN q).below (below_seven (w5.drewN q))) (sees_seven' (w5.drewN q)) (by decide)).mono ?_
      rintro e w7 ⟨rfl, q2, rfl⟩
      go_wp2
      go_ret
      exact ⟨rfl, below_drewN ((below_drewN hB5 q).alloc hB5.size _) q2⟩
    · by_cases hn1 : (100 : Int) < n
      · have hfl3 := Lib.hid (show rep z1 4 = rep z1 3 ++ z1 by rw [show 4 = 3 + 1 from rfl, rep_add, rep_one])
        have lf1 : (rep z1 4).length ≤ 4800 := by rw [rep_length]; have := Nat.mul_le_mul (show 4 ≤ 101 by decide) l1; omega
        have lf0 : (rep z1 3).length ≤ 4800 := by rw [rep_length]; have := Nat.mul_le_mul (show 3 ≤ 101 by decide) l1; omega
        have hfl := Lib.hid (show flat [rep z1 3, z1] = rep z1 4 by rw [hfl3.out]; simp [flat])
        have hr1 := Lib.hid (implRepeat_calls w1 v1 z1 4 s1 (by rw [← rep_length]; omega) (by omega) (by omega))
        obtain ⟨A1, c1, e1, _, _⟩ := s1.form
        subst e1
        go_wp2_with fail
        refine hr1.out.mono ?_
        rintro e w2 ⟨g2, rfl, ha, hb2⟩
        have sa := SeesI.own ha
        have s12 := (s1.below hb2).more hb2.size
        have hB2 := hB1.trans (hb2.mono hB1.size)
        have hr2 := Lib.hid (implRepeat_calls w2 _ z1 3 s12 (by rw [← rep_length]; omega) (by omega) (by omega))
        clear ha hr1 hb2 hB1 s1
        go_wp2_with fail
        refine hr2.out.mono ?_
        rintro e w3 ⟨g3, rfl, hb, hb3⟩
        have sb := SeesI.own hb
        have sa3 := (sa.below hb3).more hb3.size
        have s13 := (s12.below hb3).more hb3.size
        have hB3 := hB2.trans (hb3.mono hB2.size)
        clear hb hr2 hb3 hB2 s12 sa
        have hc := Lib.hid (implConcat_calls _ _ _ [rep z1 3, z1] (sees_two sb s13) (Nat.le_refl _) (by rw [hfl.out]; omega) (by simp))
        have hba := (Below.refl w3.heap.size w3).alloc (Nat.le_refl _) (.cells #[.slice (some ⟨g3, 0, none⟩) (rep z1 3).length (rep z1 3).length, .slice A1 z1.length c1] 23)
        go_wp2_with fail
        refine hc.out.mono ?_
        rintro e w4 ⟨cv, b4, rfl, hcv, _, hb4⟩
        rw [hfl.out] at hcv
        have sc := SeesI.own hcv
        have hb34 := hba.trans (hb4.mono (by simp))
        have sa4 := (sa3.below hb34).more hb34.size
        have hB4 := hB3.trans (hb34.mono hB3.size)
        clear hcv hc hb4 hba sa3 hb34 hB3 sb s13
        have hr7 := Lib.hid (implRepeat_calls _ _ [7] 1 (sees_seven' w4) (by decide) (by decide) (by decide))
        go_wp2_with fail
        refine hr7.out.mono ?_
        rintro e w5 ⟨g5, rfl, h7, hb5⟩
        rw [show rep [(7 : Int)] 1 = [7] from rfl] at h7 ⊢
        have s7 := SeesI.own h7
        have hb45 := (below_seven w4).trans (hb5.mono (by simp))
        have sa5 := (sa4.below hb45).more hb45.size
        have sc5 := (sc.below hb45).more hb45.size
        have hB5 := hB4.trans (hb45.mono hB4.size)
        clear h7 hr7 hb5 hb45 sa4 sc hB4
        go_wp2_with fail
        refine (same_yes w5 _ _ _ cv _ sa5 sc5 (by omega)).mono ?_
        rintro e w6 ⟨rfl, q, rfl⟩
        go_wp2_with fail
        refine (same_yes _ _ _ _ _ [7] ((s7.drewN q).below (below_seven (w5.drewN q))) (sees_seven' (w5.drewN q)) (by decide)).mono ?_
        rintro e w7 ⟨rfl, q2, rfl⟩
        go_wp2
        go_ret
        exact ⟨rfl, below_drewN ((below_drewN hB5 q).alloc hB5.size _) q2⟩
      · obtain ⟨k, rfl⟩ : ∃ k : Nat, n = (k : Int) := ⟨n.toNat, by omega⟩
        have hwr : IntKind.i64.wrap ((k : Int) + 1) = ((k + 1 : Nat) : Int) := (IntWalk.i64_in _ (by omega)).trans (by omega)
        have lf1 : (rep z1 (k + 1)).length ≤ 4800 := by rw [rep_length]; have := Nat.mul_le_mul (show k + 1 ≤ 101 by omega) l1; omega
        have lf0 : (rep z1 k).length ≤ 4800 := by rw [rep_length]; have := Nat.mul_le_mul (show k ≤ 101 by omega) l1; omega
        have hfl := Lib.hid (show flat [rep z1 k, z1] = rep z1 (k + 1) by rw [rep_add, rep_one]; simp [flat])
        have hr1 := Lib.hid (implRepeat_calls w1 v1 z1 (k + 1) s1 (by rw [← rep_length]; omega) (by omega) (by omega))
        obtain ⟨A1, c1, e1, _, _⟩ := s1.form
        subst e1
        go_wp2_with fail
        refine hr1.out.mono ?_
        rintro e w2 ⟨g2, rfl, ha, hb2⟩
        have sa := SeesI.own ha
        have s12 := (s1.below hb2).more hb2.size
        have hB2 := hB1.trans (hb2.mono hB1.size)
        have hr2 := Lib.hid (implRepeat_calls w2 _ z1 k s12 (by rw [← rep_length]; omega) (by omega) (by omega))
        clear ha hr1 hb2 hB1 s1
        go_wp2_with fail
        refine hr2.out.mono ?_
        rintro e w3 ⟨g3, rfl, hb, hb3⟩
        have sb := SeesI.own hb
        have sa3 := (sa.below hb3).more hb3.size
        have s13 := (s12.below hb3).more hb3.size
        have hB3 := hB2.trans (hb3.mono hB2.size)
        clear hb hr2 hb3 hB2 s12 sa
        have hc := Lib.hid (implConcat_calls _ _ _ [rep z1 k, z1] (sees_two sb s13) (Nat.le_refl _) (by rw [hfl.out]; omega) (by simp))
        have hba := (Below.refl w3.heap.size w3).alloc (Nat.le_refl _) (.cells #[.slice (some ⟨g3, 0, none⟩) (rep z1 k).length (rep z1 k).length, .slice A1 z1.length c1] 23)
        go_wp2_with fail
        refine hc.out.mono ?_
        rintro e w4 ⟨cv, b4, rfl, hcv, _, hb4⟩
        rw [hfl.out] at hcv
        have sc := SeesI.own hcv
        have hb34 := hba.trans (hb4.mono (by simp))
        have sa4 := (sa3.below hb34).more hb34.size
        have hB4 := hB3.trans (hb34.mono hB3.size)
        clear hcv hc hb4 hba sa3 hb34 hB3 sb s13
        have hr7 := Lib.hid (implRepeat_calls _ _ [7] 1 (sees_seven' w4) (by decide) (by decide) (by decide))
        go_wp2_with fail
        refine hr7.out.mono ?_
        rintro e w5 ⟨g5, rfl, h7, hb5⟩
        rw [show rep [(7 : Int)] 1 = [7] from rfl] at h7 ⊢
        have s7 := SeesI.own h7
        have hb45 := (below_seven w4).trans (hb5.mono (by simp))
        have sa5 := (sa4.below hb45).more hb45.size
        have sc5 := (sc.below hb45).more hb45.size
        have hB5 := hB4.trans (hb45.mono hB4.size)
        clear h7 hr7 hb5 hb45 sa4 sc hB4
        go_wp2_with fail
        refine (same_yes w5 _ _ _ cv _ sa5 sc5 (by omega)).mono ?_
        rintro e w6 ⟨rfl, q, rfl⟩
        go_wp2_with fail
        refine (same_yes _ _ _ _ _ [7] ((s7.drewN q).below (below_seven (w5.drewN q))) (sees_seven' (w5.drewN q)) (by decide)).mono ?_
        rintro e w7 ⟨rfl, q2, rfl⟩
        go_wp2
        go_ret
        exact ⟨rfl, below_drewN ((below_drewN hB5 q).alloc hB5.size _) q2⟩

end Go.Proofs.Ytmfmpfcgllpflaa
