/-
  The walk of the law FnKeysAreKeys: it returns true and writes nothing that was there.
-/
import Derived.Test.YtfagmnjhpipndaaSame
import Derived.Test.YtfagmnjhpipndaaSortedKeys
import Derived.Test.YtfagmnjhpipndaaCollectKeys
import Derived.Test.YtfagmnjhpipndaaCollectMap
import Derived.Test.YtfagmnjhpipndaaWalkKeys
import Derived.Test.YtfagmnjhpipndaaWalkedLaw
import Derived.Test.YtfagmnjhpipndaaDrawPairs
import Derived.Test.YtfagmnjhpipndaaSevenPairs
namespace Go.Proofs.Ytfagmnjhpipndaa
open Go.RowKit Go.Shelf Go.Maps

theorem keysU_pair7 : (keysU [((7 : Int), (1 : Int))]).length = 1 := by decide

set_option maxRecDepth 100000 in
set_option maxHeartbeats 1000000 in
theorem fnKeysAreKeys_walk (w : World) (v0 : Value) (z0 : List Int) (s0 : SeesB w w.heap.size v0 z0) (_ : z0.length * 1 ≤ 140737488351232) (f0 : ∀ z ∈ z0, 0 ≤ z ∧ z ≤ 255) :
    Calls Try.prog 3 #[v0] w fun e w' => e = .returned (.bool true) ∧ Below w.heap.size w w' := by
  obtain ⟨A, c, hv, _⟩ := s0.form
  by_cases hbig : (1048576 : Int) < (z0.length : Int)
  · subst hv
    clear s0 f0
    go_enter Try.func3, Try.ntmps3
    go_wp2
    go_ret
    exact ⟨rfl, Below.refl _ _⟩
  · have hd := Lib.hid (drawPairs_calls w v0 z0 s0 (by omega) f0)
    subst hv
    clear s0 f0
    go_enter Try.func3, Try.ntmps3
    go_wp2_with fail
    refine hd.out.mono ?_
    rintro e w1 ⟨v1, z1, rfl, ⟨s1, l1, g1⟩, hb1⟩
    have hml := mapU_length z1
    obtain ⟨A1, c1, e1, _, _⟩ := s1.form
    subst e1
    go_wp2_with fail
    refine (sortedKeys_calls w1 _ z1 s1 g1 (by omega)).mono ?_
    rintro e w2 ⟨a, rfl, ha, hb2⟩
    have sa := SeesI.own ha
    have s2 := (s1.below hb2).more hb2.size
    have hB2 := hb1.trans (hb2.mono hb1.size)
    clear ha s1 hb1 hb2
    go_wp2_with fail
    refine (collectKeys_calls w2 _ z1 s2 g1 (by omega)).mono ?_
    rintro e w3 ⟨b, b3, rfl, hb, _, hb3⟩
    have sb := SeesI.own hb
    have sa3 := (sa.below hb3).more hb3.size
    have s3 := (s2.below hb3).more hb3.size
    have hB3 := hB2.trans (hb3.mono hB2.size)
    clear hb sa s2 hB2 hb3
    have hwk := Lib.hid (walkKeys_calls w3 _ z1 (z1.length : Int) s3 g1 (by omega))
    go_wp2_with fail
    refine hwk.out.mono ?_
    rintro e w4 ⟨c, xs, rfl, hP, hxl, hc, hb4⟩
    have hfull := part_full hP (by rw [hxl]; omega)
    rw [keys_upw hfull (by rw [List.map_id])] at hc
    have sc := SeesI.own hc
    have sa4 := (sa3.below hb4).more hb4.size
    have sb4 := (sb.below hb4).more hb4.size
    have s4 := (s3.below hb4).more hb4.size
    have hB4 := hB3.trans (hb4.mono hB3.size)
    clear hc hP hxl hfull sa3 sb s3 hB3 hb4 hwk
    go_wp2_with fail
    refine (collectMap_calls w4 _ z1 s4 g1 (by omega)).mono ?_
    rintro e w5 ⟨m, ps, rfl, hgr, _, hm, hb5⟩
    obtain rfl := hgr.unique (mapU_graph z1)
    have sm := SeesP.own hm
    have sa5 := (sa4.below hb5).more hb5.size
    have sb5 := (sb4.below hb5).more hb5.size
    have sc5 := (sc.below hb5).more hb5.size
    have hB5 := hB4.trans (hb5.mono hB4.size)
    clear hgr hm sa4 sb4 sc s4 hB4 hb5
    have hkl := keysU_length z1
    have hkeys := Lib.hid (keysU_eq z1)
    generalize keysU z1 = ks at sa5 sb5 sc5 hkl hkeys
    generalize mapU z1 = ms at sm hkl hml hkeys
    obtain ⟨Aa, ca, ea, _, has⟩ := sa5.form
    obtain ⟨Am, cm, em, _, hms⟩ := sm.form
    rw [hkl] at ea has
    subst ea em
    have hkl2 : ks.length ≤ ms.length := Nat.le_of_eq hkl
    have Hkl := Lib.hid hkl
    clear hkl
    go_wp2_with fail
    refine (sortedKeys_calls _ _ [(7, 1)] (sees_pair7 _) fits_pair7 (by decide)).mono ?_
    rintro e w6 ⟨o, rfl, ho, hb6⟩
    rw [keysU_pair7] at ho
    obtain ⟨Ao, co, rfl, _⟩ := own_form ho
    have hb56 := ((Below.refl w5.heap.size w5).alloc (Nat.le_refl _) (.cells #[.int .i64 7, .int .i64 1] 32)).trans (hb6.mono (by simp))
    have hB6 := hB5.trans (hb56.mono hB5.size)
    have sa6 := sa5.below hb56
    have sb6 := sb5.below hb56
    have sc6 := sc5.below hb56
    clear ho hb6
    go_wp2_with fail
    go_loopw [9] (fun i wr => ∃ k : Nat, k ≤ ms.length ∧ i = .int .i64 k ∧ ∃ q, wr = w6.drewN q) (fun i _ => ms.length - (intOf i).toNat)
    case atStart => exact ⟨0, Nat.zero_le _, rfl, 0, rfl⟩
    case round =>
      obtain ⟨k, hk, rfl, q, rfl⟩ := hrel
      by_cases hlt : k < ms.length
      · obtain ⟨ba, oa, rfl, hba, hxa⟩ := has (by omega)
        obtain ⟨bm, om, rfl, hbm, hxm⟩ := hms (by omega)
        have e1 := (hb56.cell (p := ⟨ba, oa + k, none⟩) hba).trans (hxa k hlt)
        have e2 := (hb56.cell (p := ⟨bm, om + k * 2, none⟩) hbm).trans (hxm k hlt).1
        have hkk : ks[k]?.getD 0 = ms[k].1 := by rw [hkeys.out, List.getElem?_map, List.getElem?_eq_getElem hlt]; rfl
        rw [hkk] at e1
        clear hxa hxm has hms hkk sa5 sb5 sc5 sa6 sb6 sc6 sm
        generalize ms[k].1 = u at e1 e2
        go_wp2
        go_quiet (fail)
        go_wp2
        go_roundw
        case rel => exact ⟨k + 1, by omega, by go_num, _, rfl⟩
        case measure => simp [intOf]; omega
      · obtain rfl : k = ms.length := by omega
        clear has hms
        have hsab := Lib.hid (same_yes (w6.drewN q) _ _ _ b ks (sa6.drewN q) (sb6.drewN q) (by omega))
        go_wp2_with fail
        refine hsab.out.mono ?_
        rintro e w7 ⟨rfl, q2, rfl⟩
        have hsac := Lib.hid (same_yes (w6.drewN (q + q2)) _ _ _ c ks (sa6.drewN (q + q2)) (sc6.drewN (q + q2)) (by omega))
        go_wp2_with fail
        refine hsac.out.mono ?_
        rintro e w8 ⟨rfl, q3, rfl⟩
        go_wp2
        go_ret
        exact ⟨rfl, below_drewN hB6 _⟩

end Go.Proofs.Ytfagmnjhpipndaa
