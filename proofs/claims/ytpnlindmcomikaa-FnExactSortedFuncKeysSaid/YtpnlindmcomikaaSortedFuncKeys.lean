/-
  The contract of impl.SortedFuncKeys. No statement is proved here.
-/
import Derived.Test.YtpnlindmcomikaaMapKeys
import Derived.Test.YtpnlindmcomikaaSortedFunc
namespace Go.Proofs.Ytpnlindmcomikaa
open Go.RowKit Go.Shelf Go.Maps

/-- What impl.SortedFuncKeys hands back. -/
def SortedFuncKeysPost (w : World) (ps : List (Int × Int)) (tb : List Int) (e : Ending) (w' : World) : Prop :=
  ∃ v ys, e = .returned v ∧ upw ys = keysU ps ∧ ys.length ≤ ps.length ∧ Rises tb ys ∧ w'.ownsRow w.heap.size 3 1 v ys.length (ys.map (Value.int .i64)) ∧ Below w.heap.size w w'

set_option maxHeartbeats 400000 in
/-- impl.SortedFuncKeys -/
theorem sortedFuncKeys_calls (w : World) (sv tv : Value) (ps : List (Int × Int)) (tb : List Int) (hI : SeesP w w.heap.size sv ps) (hwf : Fits ps) (hT : SeesI w w.heap.size tv tb) (hz : (ps.length + 1) * 16 ≤ 140737488355328) (hzt : tb.length ≤ 1000000000000000000) :
    Calls Try.prog 17 #[sv, tv] w (SortedFuncKeysPost w ps tb) := by
  have hto := Lib.hid (toMap_calls w w.heap.size sv ps hI (Nat.le_refl _) hwf (by omega))
  obtain ⟨A, c, hsv, _⟩ := hI.form
  obtain ⟨At, ct, htv, _⟩ := hT.form
  subst hsv htv
  clear hI hwf
  go_enter Try.func17, Try.ntmps17
  go_wp2_with fail
  refine hto.out.mono ?_
  rintro e w1 ⟨b, rfl, hb, hm, hb1⟩
  have hbl := hm.lt
  have hs1 := hb1.size
  have hml := mapU_length ps
  have hbx := ((Below.refl w1.heap.size w1).alloc (Nat.le_refl _) (.cells #[.map (some b)] 50)).alloc (by simp) (.cells #[.slice At tb.length ct] 23)
  have bM := (Boxed.new w1 50 (.map (some b))).alloc (.cells #[.slice At tb.length ct] 23)
  have bT := Boxed.new (w1.alloc (.cells #[.map (some b)] 50)) 23 (.slice At tb.length ct)
  have hm2 := (hm.alloc (.cells #[.map (some b)] 50)).alloc (.cells #[.slice At tb.length ct] 23)
  have hT2 := ((hT.below hb1).below (hbx.mono hs1)).more (B' := w1.heap.size + 2) (by omega)
  have hsz : ((w1.alloc (.cells #[.map (some b)] 50)).alloc (.cells #[.slice At tb.length ct] 23)).heap.size = w1.heap.size + 2 := by simp
  rw [World.size_alloc] at bT
  clear hm
  go_wp2_with fail
  refine (mkeys_calls _ w1).mono ?_
  rintro e w2 ⟨rfl, rfl⟩
  go_wp2_with fail
  refine (byRank_calls _ _ _ _).mono ?_
  rintro e w3 ⟨rfl, rfl⟩
  simp only [World.size_alloc]
  generalize (w1.alloc (.cells #[.map (some b)] 50)).alloc (.cells #[.slice At tb.length ct] 23) = W at hbx bM bT hm2 hT2 hsz ⊢
  rw [← hsz] at hT2
  have hc := Lib.hid (sortedFunc_calls W ps.length 37 (w1.heap.size + 1) #[.pointer (some ⟨w1.heap.size, 0, none⟩)] _ tb bT.cell (by omega) hT2 hzt (enters_of Try.func37 (by kernel_rfl) rfl)
    (mkeys_stops 4 (by omega) w1.heap.size b ps.length (mkm ps) _ (by omega) bM.cell hm2)
    keepsMap_t (keepsMap_b (by omega)) (fun W' W'' hb hk => keepsMap_of hb (by omega) hk) (by omega) (fun xs ⟨xs', hS, hxs⟩ => by
      have h1 := congrArg List.length hxs
      rw [List.length_map, List.length_map, seq_length hS] at h1
      omega))
  clear hm2
  go_wp2_with fail
  refine hc.out.mono ?_
  rintro e w4 ⟨v, xs, ys, rfl, ⟨xs', hS, hxs⟩, hp, hri, hr, _, hb4⟩
  have hu : upw ys = keysU ps := (upw_of_perm hp).trans (keys_upw hS hxs)
  have hyl : ys.length ≤ ps.length := by
    have h1 := congrArg List.length hxs
    rw [List.length_map, List.length_map, seq_length hS] at h1
    have := hp.length_eq
    omega
  have Hu := Lib.hid hu
  have Hri := Lib.hid hri
  have hB4 : Below w.heap.size w w4 := (hb1.trans (hbx.mono hs1)).trans (hb4.mono (by omega))
  clear hS hxs hp hri hu
  go_wp2_with fail
  go_ret
  exact ⟨v, ys, rfl, Hu.out, hyl, Hri.out, own_base hr (by omega), hB4⟩

end Go.Proofs.Ytpnlindmcomikaa
