/-
  The contract of impl.InsertAll. No statement is proved here.
-/
import Derived.Test.YtaeeiociiojciaaMapPost
import Derived.Test.YtaeeiociiojciaaAll
namespace Go.Proofs.Ytaeeiociiojciaa
open Go.RowKit Go.Shelf Go.Maps

set_option maxHeartbeats 400000 in
/-- impl.InsertAll -/
theorem insertAll_calls (w : World) (dv sv : Value) (ds : List (Int × Int)) (zs : List Int) (hD : SeesP w w.heap.size dv ds) (hdf : Fits ds) (hI : SeesI w w.heap.size sv zs) (hwf : ∀ z ∈ zs, (Lit.int .i64 z).wf = true) (hz : (ds.length + zs.length + 1) * 16 ≤ 140737488355328) :
    Calls Try.prog 20 #[dv, sv] w (MapPost w (ds.length + zs.length) (ups (mkm ds) (allOf zs))) := by
  have hto := Lib.hid (toMap_calls w w.heap.size dv ds hD (Nat.le_refl _) hdf (by omega))
  obtain ⟨Ad, cd, hdv, _⟩ := hD.form
  obtain ⟨A, c, hsv, _⟩ := hI.form
  subst hdv
  clear hD hdf
  go_enter Try.func20, Try.ntmps20
  go_wp2_with fail
  refine hto.out.mono ?_
  rintro e w1 ⟨b, rfl, hb, hm, hb1⟩
  have hI1 := (hI.below hb1).more hb1.size
  have hbx := (Below.refl w1.heap.size w1).alloc (Nat.le_refl _) (.cells #[sv] 22)
  have hc := Lib.hid (minsert_calls (w1.alloc (.cells #[sv] 22)) b ds.length zs.length 39 #[.pointer (some ⟨w1.heap.size, 0, none⟩)] (mkm ds) (hm.alloc _) (enters_of Try.func39 (by kernel_rfl) rfl)
    (all_stops 4 (by omega) w1.heap.size w.heap.size sv zs (by omega) hwf _ (by simp) (by simp; have := hb1.size; omega) (Boxed.new w1 22 sv).cell ((hI.below hb1).below (hbx.mono hb1.size)))
    (fun h k => h.trans k) (belowK_b (by simp; have := hb1.size; omega)) (belowK_map hb) (by omega))
  subst hsv
  clear hI hI1 hwf
  go_wp2_with fail
  refine (all_calls _ _ _ w1).mono ?_
  rintro e w2 ⟨rfl, rfl⟩
  go_wp2_with fail
  refine hc.out.mono ?_
  rintro e w3 ⟨xs, rfl, hS, hxl, hm3, hg3⟩
  rw [hS] at hm3
  have hm' := hm3.more (n' := ds.length + zs.length) (by omega)
  have hb3 : Below w.heap.size w w3 := (hb1.trans (hbx.mono hb1.size)).grown hg3 (by simp; have := hb1.size; omega) (fun k e => by cases e; exact hb)
  go_wp2_with fail
  refine (toPairs_calls w3 b (ds.length + zs.length) _ hm' (by omega)).mono ?_
  rintro e w4 ⟨v, ps, rfl, hgr, hpl, hown, hb4⟩
  have Hgr := Lib.hid hgr
  clear hgr hm hm' hm3 hS
  go_wp2_with fail
  go_ret
  exact ⟨v, ps, rfl, Hgr.out, hpl, own_base hown hb3.size, hb3.trans (hb4.mono hb3.size)⟩

end Go.Proofs.Ytaeeiociiojciaa
