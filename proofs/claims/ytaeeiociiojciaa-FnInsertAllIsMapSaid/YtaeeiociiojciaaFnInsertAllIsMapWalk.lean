/-
  The walk of the law FnInsertAllIsMap: it returns true and writes nothing that was there.
-/
import Derived.Test.YtaeeiociiojciaaDrawPairs
import Derived.Test.YtaeeiociiojciaaSeven
import Derived.Test.YtaeeiociiojciaaInsertAll
import Derived.Test.YtaeeiociiojciaaInsertMap
import Derived.Test.YtaeeiociiojciaaCollectAll
import Derived.Test.YtaeeiociiojciaaMapMore
import Derived.Test.YtaeeiociiojciaaSamePairs
namespace Go.Proofs.Ytaeeiociiojciaa
open Go.RowKit Go.Shelf Go.Maps

theorem sees_none (w : World) (B : Nat) : SeesP w B (.slice none 0 0) [] := ⟨rfl, none, 0, rfl, Nat.le_refl _, fun h => absurd h (Nat.lt_irrefl _)⟩
theorem fits_none : Fits [] := fun _ h => by cases h
theorem allOf_fits {zs : List Int} (h : ∀ z ∈ zs, (Lit.int .i64 z).wf = true) (hl : zs.length ≤ 1000000000000000000) : Fits (allOf zs) := by
  intro p hp
  obtain ⟨k, hk, rfl⟩ := List.getElem_of_mem hp
  rw [allOf_get]
  rw [allOf_length] at hk
  exact ⟨wf_small (by omega) (by omega), h _ (List.getElem_mem hk)⟩

set_option maxRecDepth 100000 in
set_option maxHeartbeats 1000000 in
theorem fnInsertAllIsMap_walk (w : World) (v0 : Value) (z0 : List Int) (s0 : SeesB w w.heap.size v0 z0) (_ : z0.length * 1 ≤ 140737488351232) (f0 : ∀ z ∈ z0, 0 ≤ z ∧ z ≤ 255) :
    Calls Try.prog 13 #[v0] w fun e w' => e = .returned (.bool true) ∧ Below w.heap.size w w' := by
  obtain ⟨A, c, hv, _⟩ := s0.form
  by_cases hbig : (1048576 : Int) < (z0.length : Int)
  · subst hv
    clear s0 f0
    go_enter Try.func13, Try.ntmps13
    go_wp2
    go_ret
    exact ⟨rfl, Below.refl _ _⟩
  · have hd := Lib.hid (drawMapList_calls w v0 z0 s0 (by omega) f0)
    subst hv
    clear s0 f0
    go_enter Try.func13, Try.ntmps13
    go_wp2_with fail
    refine hd.out.mono ?_
    rintro e w1 ⟨v1, v2, z1, z2, rfl, ⟨s1, l1, g1⟩, ⟨s2, l2, g2⟩, hB1⟩
    go_wp2_with fail
    refine (insertAll_calls w1 v1 v2 z1 z2 s1 g1 s2 g2 (by omega)).mono ?_
    rintro e w2 ⟨a, ps, rfl, hga, al, ha, hb2⟩
    have sa_2 := SeesP.own ha
    have s1_2 := (s1.below hb2).more hb2.size
    have s2_2 := (s2.below hb2).more hb2.size
    have hB2 := hB1.trans (hb2.mono hB1.size)
    clear s1 s2
    go_wp2_with fail
    refine (collectAll_calls w2 v2 z2 s2_2 g2 (by omega)).mono ?_
    rintro e w3 ⟨b, qs, rfl, hgb, bl, hb, hb3⟩
    obtain rfl := hgb.unique (graph_rising (allOf_rising z2))
    have hfb := allOf_fits g2 (by omega)
    have sb_3 := SeesP.own hb
    have s1_3 := (s1_2.below hb3).more hb3.size
    have sa_3 := (sa_2.below hb3).more hb3.size
    have hB3 := hB2.trans (hb3.mono hB2.size)
    clear s1_2 s2_2 sa_2
    go_wp2_with fail
    refine (insertMap_calls w3 v1 b z1 (allOf z2) s1_3 g1 sb_3 hfb (by omega)).mono ?_
    rintro e w4 ⟨d, ds, rfl, hgd, dl, hd2, hb4⟩
    rw [← orm_ups hgb.seq] at hgd
    obtain rfl := hgd.unique hga
    clear hgd
    have sd_4 := SeesP.own hd2
    have sa_4 := (sa_3.below hb4).more hb4.size
    have hB4 := hB3.trans (hb4.mono hB3.size)
    clear s1_3 sa_3 sb_3
    go_wp2_with fail
    refine (samePairs_yes w4 _ _ a d _ sa_4 sd_4 (by omega)).mono ?_
    rintro e w5 ⟨rfl, q5, rfl⟩
    have sa_5 := (sa_4.drewN q5).more (B' := (w4.drewN q5).heap.size) (Nat.le_refl _)
    have sd_5 := (sd_4.drewN q5).more (B' := (w4.drewN q5).heap.size) (Nat.le_refl _)
    have hB5 := below_drewN hB4 q5
    clear sa_4 sd_4 hB4
    generalize hW5 : w4.drewN q5 = w5 at sa_5 sd_5 hB5 ⊢
    clear hW5
    go_wp2_with fail
    refine (insertAll_calls _ _ _ [] [7] (sees_none _ _) fits_none (sees_seven' _) seven_wf (by decide)).mono ?_
    rintro e w6 ⟨o, os, rfl, hgo, ol, ho, hb6⟩
    obtain rfl := hgo.unique (graph_rising (l := [(0, 7)]) (by simp))
    obtain ⟨Ao, co, rfl, _⟩ := own_form ho
    clear hgo ol ho
    have hc6 := ((Below.refl w5.heap.size w5).alloc (Nat.le_refl _) (.cells #[.int .i64 7] 3)).trans (hb6.mono (by simp))
    have hB6 := hB5.trans (hc6.mono hB5.size)
    clear sa_5 sd_5
    go_wp2
    go_ret
    exact ⟨by simp, hB6⟩

end Go.Proofs.Ytaeeiociiojciaa
