/-
  The walk of the law FnValuesAreValues: it returns true and writes nothing that was there.
-/
import Derived.Test.YtfagmnjhpipndaaSame
import Derived.Test.YtfagmnjhpipndaaSortedMapValues
import Derived.Test.YtfagmnjhpipndaaWalkMapValues
import Derived.Test.YtfagmnjhpipndaaWalkMap
import Derived.Test.YtfagmnjhpipndaaWalkedLaw
import Derived.Test.YtfagmnjhpipndaaSpecUpward
import Derived.Test.YtfagmnjhpipndaaDrawPairs
import Derived.Test.YtfagmnjhpipndaaSevenPairs
namespace Go.Proofs.Ytfagmnjhpipndaa
open Go.RowKit Go.Shelf Go.Maps

theorem valsU_pair7 : (valsU [((7 : Int), (1 : Int))]).length = 1 := by decide
theorem putAll_whole {xs ps : List (Int × Int)} (h : PartOf xs (mkm ps)) (hl : xs.length = (mapU ps).length) : putAll xs = mapU ps :=
  Graph.unique (f := mkm ps) ⟨putAll_rising h.1, fun k v => (putAll_mem xs (k, v)).trans ((part_full h hl).2 k v)⟩ (mapU_graph ps)

set_option maxRecDepth 100000 in
set_option maxHeartbeats 1000000 in
theorem fnValuesAreValues_walk (w : World) (v0 : Value) (z0 : List Int) (s0 : SeesB w w.heap.size v0 z0) (_ : z0.length * 1 ≤ 140737488351232) (f0 : ∀ z ∈ z0, 0 ≤ z ∧ z ≤ 255) :
    Calls Try.prog 11 #[v0] w fun e w' => e = .returned (.bool true) ∧ Below w.heap.size w w' := by
  obtain ⟨A, c, hv, _⟩ := s0.form
  by_cases hbig : (1048576 : Int) < (z0.length : Int)
  · subst hv
    clear s0 f0
    go_enter Try.func11, Try.ntmps11
    go_wp2
    go_ret
    exact ⟨rfl, Below.refl _ _⟩
  · have hd := Lib.hid (drawPairs_calls w v0 z0 s0 (by omega) f0)
    subst hv
    clear s0 f0
    go_enter Try.func11, Try.ntmps11
    go_wp2_with fail
    refine hd.out.mono ?_
    rintro e w1 ⟨v1, z1, rfl, ⟨s1, l1, g1⟩, hb1⟩
    have hml := mapU_length z1
    obtain ⟨A1, c1, e1, _, _⟩ := s1.form
    subst e1
    go_wp2_with fail
    refine (sortedMapValues_calls w1 _ z1 s1 g1 (by omega)).mono ?_
    rintro e w2 ⟨a, rfl, ha, hb2⟩
    have sa := SeesI.own ha
    have s2 := (s1.below hb2).more hb2.size
    have hB2 := hb1.trans (hb2.mono hb1.size)
    clear ha s1 hb1 hb2
    have hwk := Lib.hid (walkMapValues_calls w2 _ z1 (z1.length : Int) s2 g1 (by omega))
    go_wp2_with fail
    refine hwk.out.mono ?_
    rintro e w3 ⟨b, xs, rfl, hP, hxl, hb, hb3⟩
    have hfull := part_full hP (by rw [hxl]; omega)
    rw [vals_upw hfull (by rw [List.map_id])] at hb
    have sb := SeesI.own hb
    have sa3 := (sa.below hb3).more hb3.size
    have s3 := (s2.below hb3).more hb3.size
    have hB3 := hB2.trans (hb3.mono hB2.size)
    clear hb hP hxl hfull sa s2 hB2 hb3 hwk
    have hwm := Lib.hid (walkMap_calls w3 _ z1 (z1.length : Int) s3 g1 (by omega))
    go_wp2_with fail
    refine hwm.out.mono ?_
    rintro e w4 ⟨m, ys, rfl, hP, hyl, hm, hb4⟩
    rw [putAll_whole hP (by rw [hyl]; omega)] at hm
    have sm := SeesP.own hm
    have sa4 := (sa3.below hb4).more hb4.size
    have sb4 := (sb.below hb4).more hb4.size
    have hB4 := hB3.trans (hb4.mono hB3.size)
    clear hm hP hyl sa3 sb s3 hB3 hb4 hwm
    have hvl := valsU_length z1
    have hvals := Lib.hid (valsU_eq z1)
    generalize valsU z1 = us at sa4 sb4 hvl hvals
    generalize mapU z1 = ms at sm hvl hml hvals
    obtain ⟨Am, cm, em, _, hms⟩ := sm.form
    subst em
    obtain ⟨i0, hi, hz0, hz1, hz2⟩ := info_parts Try.infoInt
    have hul : us.length ≤ 24 := by omega
    have hown0 := own_empty w4 w4.heap.size 1 3 (Nat.le_refl _)
    have hb0 := (Below.refl w4.heap.size w4).alloc (Nat.le_refl _) (.cells #[] 3)
    clear hvl
    go_wp2_with fail
    go_loopw [7, 8] (fun v i wr => ∃ k : Nat, k ≤ ms.length ∧ i = .int .i64 k ∧ wr.ownsRow w4.heap.size 3 1 v k (((ms.take k).map (·.2)).map (Value.int .i64)) ∧ Below w4.heap.size w4 wr) (fun _ i _ => ms.length - (intOf i).toNat)
    case atStart => exact ⟨0, Nat.zero_le _, rfl, hown0, hb0⟩
    case round =>
      obtain ⟨k, hk, rfl, hrow, hbr⟩ := hrel
      clear hown0 hb0
      have hsr := hbr.size
      obtain ⟨A', c', rfl, _⟩ := own_form hrow
      by_cases hlt : k < ms.length
      · obtain ⟨bm, om, rfl, hbm, hxm⟩ := hms (by omega)
        have e2 := (hbr.cell (p := ⟨bm, om + k * 2 + 1, none⟩) hbm).trans (hxm k hlt).2
        have htk := Lib.hid (take_snoc ms hlt)
        clear hxm hms sa4 sb4 sm
        generalize ms[k] = u at e2 htk
        obtain ⟨u1, u2⟩ := u
        dsimp only at e2
        go_wp2_with (at_builtin; refine wpList_append_own _ rfl _ _ 25 rfl w4.heap.size 3 i0 (.int .i64 0) 1 8 Try.underlying25 hi hz0 hz1 hz2 rfl (by decide) _ _ _ rfl (hrow.alloc _) ⟨wr.heap.size, 0, none⟩ 1 1 [.int .i64 u2] rfl rfl (cell_one_new _ _ _) (by simp [Value.oneCell']) (by unfold maxLen; omega) (by omega) (by simp; omega) ?_; intro v' w5 hown' hgrow _; have hb5 := below_own (hbr.alloc hbr.size _) (hrow.alloc _) hgrow (Nat.le_refl _) (by simp; omega))
        go_roundw
        case rel => exact ⟨k + 1, by omega, by go_num, by rw [htk.out, List.map_append, List.map_append]; exact hown', hb5⟩
        case measure => simp [intOf]; omega
      · obtain rfl : k = ms.length := by omega
        rw [List.take_of_length_le (Nat.le_refl _)] at hrow
        have sv : SeesI wr wr.heap.size (.slice A' ms.length c') (ms.map (·.2)) := by
          have h1 : wr.ownsRow w4.heap.size 3 1 (.slice A' ms.length c') (ms.map (·.2)).length ((ms.map (·.2)).map (Value.int .i64)) := by rw [List.length_map]; exact hrow
          exact SeesI.own h1
        have hms2 : (ms.map (·.2)).length ≤ 24 := by rw [List.length_map]; omega
        clear hms hrow
        have hsab := Lib.hid (same_yes wr _ _ a b us (sa4.below hbr) (sb4.below hbr) (by omega))
        go_wp2_with fail
        refine hsab.out.mono ?_
        rintro e w5 ⟨rfl, q, rfl⟩
        have hup := Lib.hid (specUpward_calls (wr.drewN q) _ _ (ms.map (·.2)) (sv.drewN q) (Nat.le_refl _) (by omega))
        go_wp2_with fail
        refine hup.out.mono ?_
        rintro e w6 ⟨y, rfl, hy, hb6⟩
        rw [← hvals.out] at hy
        have sy := SeesI.own hy
        have hb46 := (below_drewN hbr q).trans (hb6.mono hsr)
        clear hy hup hsab
        go_wp2_with fail
        refine (same_yes w6 _ _ a y us (sa4.below hb46) sy (by omega)).mono ?_
        rintro e w7 ⟨rfl, q2, rfl⟩
        have hB6 := hB4.trans (hb46.mono hB4.size)
        go_wp2_with fail
        refine (sortedMapValues_calls _ _ [(7, 1)] (sees_pair7 _) fits_pair7 (by decide)).mono ?_
        rintro e w8 ⟨o, rfl, ho, hb8⟩
        rw [valsU_pair7] at ho
        obtain ⟨Ao, co, rfl, _⟩ := own_form ho
        have hB7 := (below_drewN hB6 q2).alloc hB6.size (.cells #[.int .i64 7, .int .i64 1] 32)
        clear ho
        go_wp2
        go_ret
        exact ⟨by simp, hB7.trans (hb8.mono hB7.size)⟩

end Go.Proofs.Ytfagmnjhpipndaa
