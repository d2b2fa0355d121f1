/-
  The contract of impl.SortedKeys. No statement is proved here.
-/
import Derived.Test.YtfagmnjhpipndaaMapKeys
import Derived.Test.YtfagmnjhpipndaaSorted
namespace Go.Proofs.Ytfagmnjhpipndaa
open Go.RowKit Go.Shelf Go.Maps

set_option maxHeartbeats 400000 in
/-- impl.SortedKeys -/
theorem sortedKeys_calls (w : World) (sv : Value) (ps : List (Int × Int)) (hI : SeesP w w.heap.size sv ps) (hwf : Fits ps) (hz : (ps.length + 1) * 16 ≤ 140737488355328) :
    Calls Try.prog 14 #[sv] w fun e w' => ∃ v, e = .returned v ∧ w'.ownsRow w.heap.size 3 1 v (keysU ps).length ((keysU ps).map (Value.int .i64)) ∧ Below w.heap.size w w' := by
  have hto := Lib.hid (toMap_calls w w.heap.size sv ps hI (Nat.le_refl _) hwf (by omega))
  obtain ⟨A, c, hsv, _⟩ := hI.form
  subst hsv
  clear hI hwf
  go_enter Try.func14, Try.ntmps14
  go_wp2_with fail
  refine hto.out.mono ?_
  rintro e w1 ⟨b, rfl, hb, hm, hb1⟩
  have hbl := hm.lt
  have hs1 := hb1.size
  have hml := mapU_length ps
  have hbx := (Below.refl w1.heap.size w1).alloc (Nat.le_refl _) (.cells #[.map (some b)] 57)
  have hc := Lib.hid (sorted_calls (w1.alloc (.cells #[.map (some b)] 57)) ps.length 61 #[.pointer (some ⟨w1.heap.size, 0, none⟩)] (enters_of Try.func61 (by kernel_rfl) rfl)
    (mkeys_stops 4 (by omega) w1.heap.size b ps.length (mkm ps) _ (by simp) (Boxed.new w1 57 (.map (some b))).cell (hm.alloc _))
    keepsMap_t (keepsMap_b (by simp; omega)) (fun W W' hb hk => keepsMap_of hb (by simp; omega) hk) (by omega) (fun xs ⟨xs', hS, hxs⟩ => by
      have h1 := congrArg List.length hxs
      rw [List.length_map, List.length_map, seq_length hS] at h1
      omega))
  clear hm
  go_wp2_with fail
  refine (mkeys_calls _ w1).mono ?_
  rintro e w2 ⟨rfl, rfl⟩
  go_wp2_with fail
  refine hc.out.mono ?_
  rintro e w3 ⟨v, xs, rfl, ⟨xs', hS, hxs⟩, hr, _, hb3⟩
  rw [keys_upw hS hxs] at hr
  have hb13 : Below w.heap.size w w3 := (hb1.trans (hbx.mono hs1)).trans (hb3.mono (by simp; omega))
  clear hS hxs
  go_wp2_with fail
  go_ret
  exact ⟨v, rfl, own_base hr (by simp; omega), hb13⟩

end Go.Proofs.Ytfagmnjhpipndaa
