/-
  The walk of the law FnConcatAppends: it returns true and writes nothing that was there.
-/
import Derived.Test.YtmfmpfcgllpflaaSame
import Derived.Test.YtmfmpfcgllpflaaConcat
import Derived.Test.YtmfmpfcgllpflaaAppendValues
import Derived.Test.YtmfmpfcgllpflaaDrawTwoLists
import Derived.Test.YtmfmpfcgllpflaaSeven
namespace Go.Proofs.Ytmfmpfcgllpflaa
open Go.RowKit Go.Shelf

/-- A list of two lists. -/
theorem sees_two {w : World} {v1 v2 : Value} {z1 z2 : List Int} (s1 : SeesI w w.heap.size v1 z1) (s2 : SeesI w w.heap.size v2 z2) :
    SeesL (w.alloc (.cells #[v1, v2] 23)) (w.alloc (.cells #[v1, v2] 23)).heap.size (.slice (some ⟨w.heap.size, 0, none⟩) 2 2) [z1, z2] := by
  have hb := (Below.refl w.heap.size w).alloc (Nat.le_refl _) (.cells #[v1, v2] 23)
  refine ⟨[v1, v2], Sees.own (base := 0) (World.ownsRow_lit (base := 0) (e := 23) (size := 1) w #[v1, v2] 2 (Nat.zero_le _) (by unfold maxLen; omega) rfl), fun i hi => ?_⟩
  match i, hi with
  | 0, _ => exact ⟨v1, rfl, (s1.below hb).more hb.size⟩
  | 1, _ => exact ⟨v2, rfl, (s2.below hb).more hb.size⟩
/-- A list of one list. -/
theorem sees_one {w : World} {v1 : Value} {z1 : List Int} (s1 : SeesI w w.heap.size v1 z1) :
    SeesL (w.alloc (.cells #[v1] 23)) (w.alloc (.cells #[v1] 23)).heap.size (.slice (some ⟨w.heap.size, 0, none⟩) 1 1) [z1] := by
  have hb := (Below.refl w.heap.size w).alloc (Nat.le_refl _) (.cells #[v1] 23)
  refine ⟨[v1], Sees.own (base := 0) (World.ownsRow_lit (base := 0) (e := 23) (size := 1) w #[v1] 1 (Nat.zero_le _) (by unfold maxLen; omega) rfl), fun i hi => ?_⟩
  match i, hi with
  | 0, _ => exact ⟨v1, rfl, (s1.below hb).more hb.size⟩

set_option maxRecDepth 100000 in
set_option maxHeartbeats 1000000 in
theorem fnConcatAppends_walk (w : World) (v0 : Value) (z0 : List Int) (s0 : SeesB w w.heap.size v0 z0) (_ : z0.length * 1 ≤ 140737488351232) (f0 : ∀ z ∈ z0, 0 ≤ z ∧ z ≤ 255) :
    Calls Try.prog 7 #[v0] w fun e w' => e = .returned (.bool true) ∧ Below w.heap.size w w' := by
  obtain ⟨A, c, hv, _⟩ := s0.form
  by_cases hbig : (1048576 : Int) < (z0.length : Int)
  · subst hv
    clear s0 f0
    go_enter Try.func7, Try.ntmps7
    go_wp2
    go_ret
    exact ⟨rfl, Below.refl _ _⟩
  · have hd := Lib.hid (drawTwoLists_calls w v0 z0 s0 (by omega) f0)
    subst hv
    clear s0 f0
    go_enter Try.func7, Try.ntmps7
    go_wp2_with fail
    refine hd.out.mono ?_
    rintro e w1 ⟨v1, v2, z1, z2, rfl, ⟨s1, l1, _⟩, ⟨s2, l2, _⟩, hB1⟩
    have hfl : flat [z1, z2] = z1 ++ z2 := by simp [flat]
    have lf : (z1 ++ z2).length ≤ 94 := by rw [List.length_append]; omega
    obtain ⟨A1, c1, e1, _, _⟩ := s1.form
    obtain ⟨A2, c2, e2, _, _⟩ := s2.form
    have hc1 := Lib.hid (implConcat_calls _ _ _ [z1, z2] (sees_two s1 s2) (Nat.le_refl _) (by rw [hfl]; omega) (by simp))
    have hba := (Below.refl w1.heap.size w1).alloc (Nat.le_refl _) (.cells #[v1, v2] 23)
    have t1 := s1.below hba
    have t2 := s2.below hba
    subst e1 e2
    go_wp2_with fail
    refine hc1.out.mono ?_
    rintro e w2 ⟨a, b2, rfl, ha, _, hb2⟩
    rw [hfl] at ha
    have sa := SeesI.own ha
    have hb12 := hba.trans (hb2.mono (by simp))
    have s12 := (s1.below hb12).more hb12.size
    have s22 := (s2.below hb12).more hb12.size
    have hB2 := hB1.trans (hb12.mono hB1.size)
    clear ha hc1 hb2 hba t1 t2 s1 s2 hb12
    have hc2 := Lib.hid (implConcat_calls _ _ _ [[7]] (sees_one (sees_seven' w2)) (Nat.le_refl _) (by decide) (by simp))
    simp only [World.size_alloc] at hc2
    have hbb := (below_seven w2).alloc (by simp) (.cells #[.slice (some ⟨w2.heap.size, 0, none⟩) 1 1] 23)
    go_wp2_with fail
    refine hc2.out.mono ?_
    rintro e w3 ⟨o, b3, rfl, ho, _, hb3⟩
    rw [show flat [[(7 : Int)]] = [7] by rfl] at ho
    have so := SeesI.own ho
    have hb23 := hbb.trans (hb3.mono (by simp; omega))
    have sa3 := (sa.below hb23).more hb23.size
    have s13 := (s12.below hb23).more hb23.size
    have s23 := (s22.below hb23).more hb23.size
    have hB3 := hB2.trans (hb23.mono hB2.size)
    clear ho hc2 hb3 hbb hb23 sa s12 s22 hB2
    go_wp2_with fail
    refine (appendValues_calls w3 _ _ z1 z2 s13 s23 (by omega)).mono ?_
    rintro e w4 ⟨y, rfl, hy, hb4⟩
    have sy := SeesI.own hy
    have sa4 := (sa3.below hb4).more hb4.size
    have so4 := (so.below hb4).more hb4.size
    have hB4 := hB3.trans (hb4.mono hB3.size)
    clear hy sa3 so s13 s23 hB3 hb4
    generalize z1 ++ z2 = zs at sa4 sy lf
    go_wp2_with fail
    refine (same_yes w4 _ _ a y zs sa4 sy (by omega)).mono ?_
    rintro e w5 ⟨rfl, q, rfl⟩
    go_wp2_with fail
    refine (same_yes _ _ _ o _ [7] ((so4.drewN q).below (below_seven (w4.drewN q))) (sees_seven' (w4.drewN q)) (by decide)).mono ?_
    rintro e w6 ⟨rfl, q2, rfl⟩
    go_wp2
    go_ret
    exact ⟨rfl, below_drewN ((below_drewN hB4 q).alloc hB4.size _) q2⟩

end Go.Proofs.Ytmfmpfcgllpflaa
