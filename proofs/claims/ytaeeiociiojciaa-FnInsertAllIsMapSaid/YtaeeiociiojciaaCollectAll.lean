/-
  The contract of impl.CollectAll. No statement is proved here.
-/
import Derived.Test.YtaeeiociiojciaaMapPost
import Derived.Test.YtaeeiociiojciaaAll
namespace Go.Proofs.Ytaeeiociiojciaa
open Go.RowKit Go.Shelf Go.Maps

set_option maxHeartbeats 400000 in
/-- impl.CollectAll -/
theorem collectAll_calls (w : World) (sv : Value) (zs : List Int) (hI : SeesI w w.heap.size sv zs) (hwf : ∀ z ∈ zs, (Lit.int .i64 z).wf = true) (hz : (zs.length + 1) * 16 ≤ 140737488355328) :
    Calls Try.prog 15 #[sv] w (MapPost w zs.length (mkm (allOf zs))) := by
  obtain ⟨A, c, hsv, _⟩ := hI.form
  have hb1 := (Below.refl w.heap.size w).alloc (Nat.le_refl _) (.cells #[sv] 22)
  have hc := Lib.hid (mcollect_calls (w.alloc (.cells #[sv] 22)) zs.length 39 #[.pointer (some ⟨w.heap.size, 0, none⟩)] (enters_of Try.func39 (by kernel_rfl) rfl)
    (all_stops 4 (by omega) w.heap.size w.heap.size sv zs (by omega) hwf _ (by simp; omega) (by simp; omega) (((Boxed.new w 22 sv).alloc _).cell) (hI.below (hb1.alloc (by simp) _)))
    (fun h k => h.trans k) (belowK_b (by simp)) (belowK_map (by simp)) (by omega))
  subst hsv
  clear hI hwf
  go_enter Try.func15, Try.ntmps15
  go_wp2_with fail
  refine (all_calls _ _ _ w).mono ?_
  rintro e w1 ⟨rfl, rfl⟩
  go_wp2_with fail
  refine hc.out.mono ?_
  rintro e w2 ⟨xs, rfl, hS, hxl, hm, hb2⟩
  rw [hS, World.size_alloc] at hm
  have hm' := hm.more hxl
  have hbw := hb1.trans (hb2.mono (by simp))
  go_wp2_with fail
  refine (toPairs_calls w2 _ zs.length _ hm' (by omega)).mono ?_
  rintro e w3 ⟨v, ps, rfl, hgr, hpl, hown, hb3⟩
  have Hgr := Lib.hid hgr
  clear hgr hm hm' hS
  go_wp2_with fail
  go_ret
  exact ⟨v, ps, rfl, Hgr.out, hpl, own_base hown hbw.size, hbw.trans (hb3.mono hbw.size)⟩

end Go.Proofs.Ytaeeiociiojciaa
