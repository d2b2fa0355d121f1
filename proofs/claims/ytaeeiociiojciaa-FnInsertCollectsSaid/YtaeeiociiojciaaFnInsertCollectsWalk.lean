/-
  The walk of the law FnInsertCollects: it returns true and writes nothing that was there.
-/
import Derived.Test.YtaeeiociiojciaaDrawPairs
import Derived.Test.YtaeeiociiojciaaSevenPairs
import Derived.Test.YtaeeiociiojciaaJoinPairs
import Derived.Test.YtaeeiociiojciaaMapCollect
import Derived.Test.YtaeeiociiojciaaMapInsert
import Derived.Test.YtaeeiociiojciaaMapMore
import Derived.Test.YtaeeiociiojciaaSamePairs
namespace Go.Proofs.Ytaeeiociiojciaa
open Go.RowKit Go.Shelf Go.Maps

theorem mapU_pair7 : (mapU [((7 : Int), (1 : Int))]).length = 1 := by decide
theorem Graph.mkm {ps : List (Int × Int)} {f : FMap} (h : Graph ps f) : mkm ps = f := by
  funext k
  have h1 := fun v => (mkm_nodup (rising_nodup h.1) k v).symm.trans (h.2 k v)
  cases hf : f k with
  | some v => exact (h1 v).2 hf
  | none =>
    cases hm : Go.Proofs.Ytaeeiociiojciaa.mkm ps k with
    | none => rfl
    | some v => rw [(h1 v).1 hm] at hf; cases hf

set_option maxRecDepth 100000 in
set_option maxHeartbeats 1000000 in
theorem fnInsertCollects_walk (w : World) (v0 : Value) (z0 : List Int) (s0 : SeesB w w.heap.size v0 z0) (_ : z0.length * 1 ≤ 140737488351232) (f0 : ∀ z ∈ z0, 0 ≤ z ∧ z ≤ 255) :
    Calls Try.prog 11 #[v0] w fun e w' => e = .returned (.bool true) ∧ Below w.heap.size w w' := by
  obtain ⟨A, c, hv, _⟩ := s0.form
  by_cases hbig : (1048576 : Int) < (z0.length : Int)
  · subst hv
    clear s0 f0
    go_enter Try.func11, Try.ntmps11
    go_wp2
    go_ret
    exact ⟨rfl, Below.refl _ _⟩
  · have hd := Lib.hid (drawTwoMaps_calls w v0 z0 s0 (by omega) f0)
    subst hv
    clear s0 f0
    go_enter Try.func11, Try.ntmps11
    go_wp2_with fail
    refine hd.out.mono ?_
    rintro e w1 ⟨v1, v2, z1, z2, rfl, ⟨s1, l1, g1⟩, ⟨s2, l2, g2⟩, hB1⟩
    go_wp2_with fail
    refine (joinPairs_calls w1 w1.heap.size v1 v2 z1 z2 s1 s2 (Nat.le_refl _) (by omega)).mono ?_
    rintro e w2 ⟨j, rfl, hj, hb2⟩
    have lj : (z1 ++ z2).length ≤ 48 := by rw [List.length_append]; omega
    have sj_2 := SeesP.own hj
    have s1_2 := (s1.below hb2).more hb2.size
    have s2_2 := (s2.below hb2).more hb2.size
    have hB2 := hB1.trans (hb2.mono hB1.size)
    clear s1 s2
    go_wp2_with fail
    refine (mapCollect_calls w2 j _ sj_2 (g1.append g2) (by omega)).mono ?_
    rintro e w3 ⟨a, ps, rfl, hgr, pl, ha, hb3⟩
    obtain rfl := hgr.unique (mapU_graph (z1 ++ z2))
    clear hgr
    have sa_3 := SeesP.own ha
    have s1_3 := (s1_2.below hb3).more hb3.size
    have s2_3 := (s2_2.below hb3).more hb3.size
    have hB3 := hB2.trans (hb3.mono hB2.size)
    clear s1_2 s2_2 sj_2
    go_wp2_with fail
    refine (mapCollect_calls w3 v1 z1 s1_3 g1 (by omega)).mono ?_
    rintro e w4 ⟨b, qs, rfl, hgq, ql, hb, hb4⟩
    have hfq := hgq.fits g1
    have hmq := hgq.mkm
    have sb_4 := SeesP.own hb
    have s2_4 := (s2_3.below hb4).more hb4.size
    have sa_4 := (sa_3.below hb4).more hb4.size
    have hB4 := hB3.trans (hb4.mono hB3.size)
    clear s1_3 s2_3 sa_3
    go_wp2_with fail
    refine (mapInsert_calls w4 b v2 qs z2 sb_4 hfq s2_4 g2 (by omega)).mono ?_
    rintro e w5 ⟨d, rs, rfl, hgr, rl, hd2, hb5⟩
    rw [hmq, ← mkm_append] at hgr
    obtain rfl := hgr.unique (mapU_graph (z1 ++ z2))
    clear hgr hgq hfq hmq
    have sd_5 := SeesP.own hd2
    have sa_5 := (sa_4.below hb5).more hb5.size
    have hB5 := hB4.trans (hb5.mono hB4.size)
    clear s2_4 sa_4 sb_4
    have lm : (mapU (z1 ++ z2)).length ≤ 48 := Nat.le_trans (mapU_length _) lj
    generalize mapU (z1 ++ z2) = us at sa_5 sd_5 lm
    go_wp2_with fail
    refine (samePairs_yes w5 _ _ a d _ sa_5 sd_5 (by omega)).mono ?_
    rintro e w6 ⟨rfl, q6, rfl⟩
    have sa_6 := (sa_5.drewN q6).more (B' := (w5.drewN q6).heap.size) (Nat.le_refl _)
    have sd_6 := (sd_5.drewN q6).more (B' := (w5.drewN q6).heap.size) (Nat.le_refl _)
    have hB6 := below_drewN hB5 q6
    clear sa_5 sd_5 hB5
    generalize hW6 : w5.drewN q6 = w6 at sa_6 sd_6 hB6 ⊢
    clear hW6
    go_wp2_with fail
    refine (mapCollect_calls _ _ [(7, 1)] (sees_pair7 _) fits_pair7 (by decide)).mono ?_
    rintro e w7 ⟨o, os, rfl, hgo, ol, ho, hb7⟩
    obtain rfl := hgo.unique (mapU_graph [(7, 1)])
    rw [mapU_pair7] at ho
    obtain ⟨Ao, co, rfl, _⟩ := own_form ho
    clear hgo ol ho
    have hc7 := ((Below.refl w6.heap.size w6).alloc (Nat.le_refl _) (.cells #[.int .i64 7, .int .i64 1] 36)).trans (hb7.mono (by simp))
    have hB7 := hB6.trans (hc7.mono hB6.size)
    clear sa_6 sd_6
    go_wp2
    go_ret
    exact ⟨by simp, hB7⟩

end Go.Proofs.Ytaeeiociiojciaa
