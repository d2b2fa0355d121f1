/-
  The walk of the law FnMapsOfLists: it returns true and writes nothing that was there.
-/
import Derived.Test.YtfagmnjhpipndaaSame
import Derived.Test.YtfagmnjhpipndaaSamePairs
import Derived.Test.YtfagmnjhpipndaaImplSorted
import Derived.Test.YtfagmnjhpipndaaSortedKeys
import Derived.Test.YtfagmnjhpipndaaSortedMapValues
import Derived.Test.YtfagmnjhpipndaaCollectAll
import Derived.Test.YtfagmnjhpipndaaCollectBackward
import Derived.Test.YtfagmnjhpipndaaDrawList
namespace Go.Proofs.Ytfagmnjhpipndaa
open Go.RowKit Go.Shelf Go.Maps

theorem allOf_fits {zs : List Int} (h : ∀ z ∈ zs, (Lit.int .i64 z).wf = true) (hl : zs.length ≤ 1000000000000000000) : Fits (allOf zs) := by
  intro p hp
  obtain ⟨k, hk, rfl⟩ := List.getElem_of_mem hp
  rw [allOf_get]
  rw [allOf_length] at hk
  exact ⟨wf_small (by omega) (by omega), h _ (List.getElem_mem hk)⟩
theorem mapU_allOf (zs : List Int) : mapU (allOf zs) = allOf zs := (mapU_graph _).unique (graph_rising (allOf_rising zs))
theorem keysU_allOf (zs : List Int) : keysU (allOf zs) = (List.range zs.length).map (fun i : Nat => (i : Int)) := by
  rw [keysU_eq, mapU_allOf]
  apply List.ext_getElem
  · simp [allOf]
  · intro k h1 h2; simp [allOf]
theorem valsU_allOf (zs : List Int) : valsU (allOf zs) = upw zs := by
  rw [valsU_eq, mapU_allOf]
  congr 1
  apply List.ext_getElem
  · simp [allOf]
  · intro k h1 h2; simp [allOf]

set_option maxRecDepth 100000 in
set_option maxHeartbeats 1000000 in
theorem fnMapsOfLists_walk (w : World) (v0 : Value) (z0 : List Int) (s0 : SeesB w w.heap.size v0 z0) (_ : z0.length * 1 ≤ 140737488351232) (f0 : ∀ z ∈ z0, 0 ≤ z ∧ z ≤ 255) :
    Calls Try.prog 4 #[v0] w fun e w' => e = .returned (.bool true) ∧ Below w.heap.size w w' := by
  obtain ⟨A, c, hv, _⟩ := s0.form
  by_cases hbig : (1048576 : Int) < (z0.length : Int)
  · subst hv
    clear s0 f0
    go_enter Try.func4, Try.ntmps4
    go_wp2
    go_ret
    exact ⟨rfl, Below.refl _ _⟩
  · have hd := Lib.hid (drawList_calls w v0 z0 s0 (by omega) f0)
    subst hv
    clear s0 f0
    go_enter Try.func4, Try.ntmps4
    go_wp2_with fail
    refine hd.out.mono ?_
    rintro e w1 ⟨v1, z1, rfl, ⟨s1, l1, g1⟩, hb1⟩
    have hfit := Lib.hid (allOf_fits g1 (by omega))
    have G1 := Lib.hid g1
    have hal : (allOf z1).length ≤ 47 := by rw [allOf_length]; exact l1
    clear g1
    go_wp2_with fail
    refine (collectAll_calls w1 v1 z1 s1 G1.out (by omega)).mono ?_
    rintro e w2 ⟨mv, ps, rfl, hgr, _, hm, hb2⟩
    obtain rfl := hgr.unique (graph_rising (allOf_rising z1))
    have sm := SeesP.own hm
    have s2 := (s1.below hb2).more hb2.size
    have hB2 := hb1.trans (hb2.mono hb1.size)
    clear hgr hm s1 hb1 hb2
    go_wp2_with fail
    refine (sortedKeys_calls w2 mv _ sm hfit.out (by omega)).mono ?_
    rintro e w3 ⟨kv, rfl, hk, hb3⟩
    rw [keysU_allOf] at hk
    have sk := SeesI.own hk
    have sm3 := (sm.below hb3).more hb3.size
    have s3 := (s2.below hb3).more hb3.size
    have hB3 := hB2.trans (hb3.mono hB2.size)
    have hkl : ((List.range z1.length).map (fun i : Nat => (i : Int))).length = z1.length := by simp
    have hkg : ∀ k, k < z1.length → ((List.range z1.length).map (fun i : Nat => (i : Int)))[k]?.getD 0 = (k : Int) := by
      intro k hk
      rw [List.getElem?_eq_getElem (by simpa using hk)]
      simp
    have HKG := Lib.hid hkg
    clear hkg hk sm s2 hB2 hb3
    generalize (List.range z1.length).map (fun i : Nat => (i : Int)) = ks at sk hkl HKG
    obtain ⟨Ak, ck, ek, _, hks⟩ := sk.form
    rw [hkl] at ek hks
    subst ek
    clear hkl sk
    obtain ⟨A1, c1, e1, _, _⟩ := s3.form
    subst e1
    go_wp2_with fail
    go_loopw [6] (fun i wr => ∃ k : Nat, k ≤ z1.length ∧ i = .int .i64 k ∧ w3 = wr) (fun i _ => z1.length - (intOf i).toNat)
    case atStart => exact ⟨0, Nat.zero_le _, rfl, rfl⟩
    case round =>
      obtain ⟨k, hk, rfl, rfl⟩ := hrel
      by_cases hlt : k < z1.length
      · obtain ⟨b, off, rfl, _, hx⟩ := hks (by omega)
        have e1 := hx k hlt
        rw [HKG.out k hlt] at e1
        clear hx hks
        go_wp2
        go_roundw
        case rel => exact ⟨k + 1, by omega, by go_num, trivial⟩
        case measure => simp [intOf]; omega
      · obtain rfl : k = z1.length := by omega
        clear hks HKG
        have hso := Lib.hid (implSorted_calls w3 _ z1 s3 (by omega))
        go_wp2_with fail
        refine hso.out.mono ?_
        rintro e w4 ⟨a, b4, rfl, ha, _, hb4⟩
        have sa := SeesI.own ha
        have sm4 := (sm3.below hb4).more hb4.size
        have s4 := (s3.below hb4).more hb4.size
        have hB4 := hB3.trans (hb4.mono hB3.size)
        clear ha hso
        go_wp2_with fail
        refine (sortedMapValues_calls w4 mv _ sm4 hfit.out (by omega)).mono ?_
        rintro e w5 ⟨vv, rfl, hvv, hb5⟩
        rw [valsU_allOf] at hvv
        have sv := SeesI.own hvv
        have sa5 := (sa.below hb5).more hb5.size
        have sm5 := (sm4.below hb5).more hb5.size
        have s5 := (s4.below hb5).more hb5.size
        have hB5 := hB4.trans (hb5.mono hB4.size)
        have lu : (upw z1).length ≤ 47 := by rw [upw_length]; exact l1
        clear hvv
        generalize upw z1 = us at sv sa5 lu
        go_wp2_with fail
        refine (same_yes w5 _ _ vv a us sv sa5 (by omega)).mono ?_
        rintro e w6 ⟨rfl, q, rfl⟩
        go_wp2_with fail
        refine (collectBackward_calls (w5.drewN q) _ z1 (s5.drewN q) G1.out (by omega)).mono ?_
        rintro e w7 ⟨bv, ps, rfl, hgr, _, hbk, hb7⟩
        obtain rfl := hgr.unique (graph_turned (allOf_rising z1))
        have sbk := SeesP.own hbk
        have sm7 := (sm5.drewN q).below hb7
        clear hgr hbk
        generalize allOf z1 = al at sbk sm7 hal
        go_wp2_with fail
        refine (samePairs_yes w7 _ _ bv mv al sbk sm7 (by omega)).mono ?_
        rintro e w8 ⟨rfl, q2, rfl⟩
        go_wp2
        go_ret
        exact ⟨by simp, below_drewN ((below_drewN hB5 q).trans (hb7.mono hB5.size)) q2⟩

end Go.Proofs.Ytfagmnjhpipndaa
