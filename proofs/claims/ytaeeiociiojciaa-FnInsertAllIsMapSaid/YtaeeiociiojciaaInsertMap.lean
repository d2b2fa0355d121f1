/-
  The contract of impl.InsertMap. No statement is proved here.
-/
import Derived.Test.YtaeeiociiojciaaMapPost
namespace Go.Proofs.Ytaeeiociiojciaa
open Go.RowKit Go.Shelf Go.Maps

set_option maxHeartbeats 400000 in
/-- impl.InsertMap -/
theorem insertMap_calls (w : World) (dv sv : Value) (ds zs : List (Int × Int)) (hD : SeesP w w.heap.size dv ds) (hdf : Fits ds) (hI : SeesP w w.heap.size sv zs) (hwf : Fits zs) (hz : (ds.length + zs.length + 1) * 16 ≤ 140737488355328) :
    Calls Try.prog 22 #[dv, sv] w (MapPost w (ds.length + zs.length) (orm (mkm zs) (mkm ds))) := by
  have hto := Lib.hid (toMap_calls w w.heap.size dv ds hD (Nat.le_refl _) hdf (by omega))
  obtain ⟨Ad, cd, hdv, _⟩ := hD.form
  subst hdv
  clear hD hdf
  go_enter Try.func22, Try.ntmps22
  go_wp2_with fail
  refine hto.out.mono ?_
  rintro e w1 ⟨b, rfl, hb, hm, hb1⟩
  have hI1 := (hI.below hb1).more hb1.size
  have hto2 := Lib.hid (toMap_calls w1 w1.heap.size sv zs hI1 (Nat.le_refl _) hwf (by omega))
  clear hI hI1 hwf
  go_wp2_with fail
  refine hto2.out.mono ?_
  rintro e w2 ⟨b2, rfl, hbb, hm2, hb2⟩
  have hbl := hm.lt
  have hb2l := hm2.lt
  have hmk := hm.below hb2 hbl
  have hs1 := hb1.size
  have hs2 := hb2.size
  have hbx := (Below.refl w2.heap.size w2).alloc (Nat.le_refl _) (.cells #[.map (some b2)] 43)
  have hc := Lib.hid (minsert_calls (w2.alloc (.cells #[.map (some b2)] 43)) b ds.length zs.length 43 #[.pointer (some ⟨w2.heap.size, 0, none⟩)] (mkm ds) (hmk.alloc _) (enters_of Try.func43 (by kernel_rfl) rfl)
    (mall_stops 4 (by omega) w2.heap.size b2 zs.length (mkm zs) _ (by simp) (Boxed.new w2 43 (.map (some b2))).cell (hm2.alloc _))
    keepsMap_t (keepsMap_b (by simp; omega)) (keepsMap_map (by omega) (by simp; omega)) (by omega))
  clear hm2 hmk
  go_wp2_with fail
  refine (mall_calls _ w2).mono ?_
  rintro e w3 ⟨rfl, rfl⟩
  go_wp2_with fail
  refine hc.out.mono ?_
  rintro e w4 ⟨xs, rfl, ⟨xs', hS, hxs⟩, hxl, hm3, hg3⟩
  rw [show xs.map (fun x : Pr => x.1) = xs' by rw [hxs, List.map_id], orm_ups hS] at hm3
  have hm' := hm3.more (n' := ds.length + zs.length) (by omega)
  have hb3 : Below w.heap.size w w4 := ((hb1.trans (hb2.mono hb1.size)).trans (hbx.mono (by omega))).grown hg3 (by simp; omega) (fun k e => by cases e; exact hb)
  go_wp2_with fail
  refine (toPairs_calls w4 b (ds.length + zs.length) _ hm' (by omega)).mono ?_
  rintro e w5 ⟨v, ps, rfl, hgr, hpl, hown, hb4⟩
  have Hgr := Lib.hid hgr
  clear hgr hm hm' hm3 hS hxs
  go_wp2_with fail
  go_ret
  exact ⟨v, ps, rfl, Hgr.out, hpl, own_base hown hb3.size, hb3.trans (hb4.mono hb3.size)⟩

end Go.Proofs.Ytaeeiociiojciaa
