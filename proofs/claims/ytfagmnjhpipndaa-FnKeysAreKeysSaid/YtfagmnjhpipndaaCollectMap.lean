/-
  The contract of impl.CollectMap. No statement is proved here.
-/
import Derived.Test.YtfagmnjhpipndaaMapPost
namespace Go.Proofs.Ytfagmnjhpipndaa
open Go.RowKit Go.Shelf Go.Maps

set_option maxHeartbeats 400000 in
/-- impl.CollectMap -/
theorem collectMap_calls (w : World) (sv : Value) (zs : List (Int × Int)) (hI : SeesP w w.heap.size sv zs) (hwf : Fits zs) (hz : (zs.length + 1) * 16 ≤ 140737488355328) :
    Calls Try.prog 17 #[sv] w (MapPost w zs.length (mkm zs)) := by
  have hto := Lib.hid (toMap_calls w w.heap.size sv zs hI (Nat.le_refl _) hwf (by omega))
  obtain ⟨A, c, hsv, _⟩ := hI.form
  subst hsv
  clear hI hwf
  go_enter Try.func17, Try.ntmps17
  go_wp2_with fail
  refine hto.out.mono ?_
  rintro e w1 ⟨b, rfl, hb, hm, hb1⟩
  have hbl := hm.lt
  have hs1 := hb1.size
  have hbx := (Below.refl w1.heap.size w1).alloc (Nat.le_refl _) (.cells #[.map (some b)] 57)
  have hc := Lib.hid (mcollect_calls (w1.alloc (.cells #[.map (some b)] 57)) zs.length 64 #[.pointer (some ⟨w1.heap.size, 0, none⟩)] (enters_of Try.func64 (by kernel_rfl) rfl)
    (mall_stops 4 (by omega) w1.heap.size b zs.length (mkm zs) _ (by simp; omega) ((Boxed.new w1 57 (.map (some b))).alloc _).cell ((hm.alloc _).alloc _))
    keepsMap_t (keepsMap_b (by simp; omega)) (keepsMap_map (n := (w1.alloc (.cells #[.map (some b)] 57)).heap.size) (by simp; omega) (by simp; omega)) (by omega))
  clear hm
  go_wp2_with fail
  refine (mall_calls _ w1).mono ?_
  rintro e w2 ⟨rfl, rfl⟩
  go_wp2_with fail
  refine hc.out.mono ?_
  rintro e w3 ⟨xs, rfl, ⟨xs', hS, hxs⟩, hxl, hm3, hb3⟩
  rw [show xs.map (fun x : Pr => x.1) = xs' by rw [hxs, List.map_id], orm_ups hS, World.size_alloc] at hm3
  have hm' := hm3.more hxl
  have hb13 : Below w.heap.size w w3 := (hb1.trans (hbx.mono hs1)).trans (hb3.mono (by simp; omega))
  go_wp2_with fail
  refine (toPairs_calls w3 _ zs.length _ hm' (by omega)).mono ?_
  rintro e w4 ⟨v, ps, rfl, hgr, hpl, hown, hb4⟩
  rw [show orm (mkm zs) noMap = mkm zs from funext fun k => by simp [orm, noMap]] at hgr
  have Hgr := Lib.hid hgr
  clear hgr hm' hm3 hS hxs
  go_wp2_with fail
  go_ret
  exact ⟨v, ps, rfl, Hgr.out, hpl, own_base hown hb13.size, hb13.trans (hb4.mono hb13.size)⟩

end Go.Proofs.Ytfagmnjhpipndaa
