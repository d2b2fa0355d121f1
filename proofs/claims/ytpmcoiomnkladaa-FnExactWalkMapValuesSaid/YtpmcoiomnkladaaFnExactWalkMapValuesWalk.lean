/-
  The walk of the law FnExactWalkMapValues: it returns true and writes nothing that was there.
-/
import Derived.Test.YtpmcoiomnkladaaWalkMapValues
import Derived.Test.YtpmcoiomnkladaaSpecValues
import Derived.Test.YtpmcoiomnkladaaCount
import Derived.Test.YtpmcoiomnkladaaCut
import Derived.Test.YtpmcoiomnkladaaWalkedLaw
namespace Go.Proofs.Ytpmcoiomnkladaa
open Go.RowKit Go.Shelf Go.Maps

set_option maxRecDepth 100000 in
set_option maxHeartbeats 1000000 in
theorem fnExactWalkMapValues_walk (w : World) (v0 : Value) (z0 : List (Int × Int)) (a1 : Int) (s0 : SeesP w w.heap.size v0 z0) (b0 : z0.length * 16 ≤ 140737488351232) (f0 : Fits z0) (_ : (Lit.int .i64 a1).wf = true) :
    Calls Try.prog 5 #[v0, .int .i64 a1] w fun e w' => e = .returned (.bool true) ∧ Below w.heap.size w w' := by
  have hc := Lib.hid (walkMapValues_calls w v0 z0 a1 s0 f0 (by omega))
  obtain ⟨A0, c0, e0, _, _⟩ := s0.form
  subst e0
  clear f0
  go_enter Try.func5, Try.ntmps5
  go_wp2_with fail
  refine hc.out.mono ?_
  rintro e w1 ⟨x, xs, rfl, hP, hxl, hx, hb1⟩
  have hs1 := hb1.size
  obtain ⟨hmem, hrise⟩ := walked_vals hP
  have hul : (upw (xs.map (·.2))).length = min (valsU z0).length a1.toNat := by rw [upw_length, List.length_map, hxl, valsU_length]
  have hkl : (valsU z0).length ≤ z0.length := by rw [valsU_length]; exact mapU_length z0
  go_wp2_with fail
  refine (specValues_calls w1 _ _ z0 (s0.below hb1) hs1 (by omega)).mono ?_
  rintro e w2 ⟨y, rfl, hy, hb2⟩
  have sx := (SeesI.own hx).below hb2
  have sy := SeesI.own hy
  have hb12 := hb1.trans (hb2.mono hs1)
  clear hx hy hP hxl hc s0
  generalize upw (xs.map (·.2)) = us at sx hmem hrise hul
  generalize valsU z0 = ks at sy hmem hul hkl
  obtain ⟨Ax, cx, ex, _, hxs⟩ := sx.form
  obtain ⟨Ay, cy, ey, _, _⟩ := sy.form
  subst ex ey
  have Hul := Lib.hid hul
  have hul2 : us.length ≤ ks.length := by rw [hul]; exact Nat.min_le_left _ _
  have Hmem := Lib.hid hmem
  have Hrise := Lib.hid hrise
  clear hul hmem hrise
  go_wp2_with fail
  go_loopw [7] (fun i wr => ∃ k : Nat, k ≤ us.length ∧ i = .int .i64 k ∧ ∃ q, wr = w2.drewN q) (fun i _ => us.length - (intOf i).toNat)
  case atStart => exact ⟨0, Nat.zero_le _, rfl, 0, rfl⟩
  case round =>
    obtain ⟨k, hk, rfl, q, rfl⟩ := hrel
    by_cases hlt : k < us.length
    · obtain ⟨b1, o1, rfl, _, hx1⟩ := hxs (by omega)
      have e1 := hx1 k hlt
      have hm := Hmem.out (us[k]?.getD 0)
      rcases Nat.eq_zero_or_pos k with h0 | h0
      · subst h0
        rw [Nat.add_zero] at e1
        clear hx1 hxs
        generalize us[0]?.getD 0 = u at e1 hm
        have hin := Lib.hid (fun n => count_calls (w2.drewN n) _ _ us u (sx.drewN n) (by omega))
        have hik := Lib.hid (fun n => count_calls (w2.drewN n) _ _ ks u (sy.drewN n) (by omega))
        generalize us.count u = n1 at hm hin
        generalize ks.count u = n2 at hm hik
        have hm2 : decide (n2 < n1) = false := by rw [decide_eq_false_iff_not]; omega
        clear hm
        go_wp2
        go_quiet (first | (go_at_call_of 20 (Value.slice (some ⟨b1, o1, none⟩) us.length cx); exact calls_quiet (hin.out _)) | (go_at_call_of 20 (Value.slice Ay ks.length cy); exact calls_quiet (hik.out _)))
        go_wp2
        go_roundw
        case rel => exact ⟨1, by omega, by go_num, _, rfl⟩
        case measure => simp [intOf]; omega
      · have e2 := hx1 (k - 1) (by omega)
        have hri := rise_at_le Hrise.out hlt h0
        clear hx1 hxs
        generalize us[k]?.getD 0 = u at e1 hm hri
        generalize us[k - 1]?.getD 0 = u' at e2 hri
        have hin := Lib.hid (fun n => count_calls (w2.drewN n) _ _ us u (sx.drewN n) (by omega))
        have hik := Lib.hid (fun n => count_calls (w2.drewN n) _ _ ks u (sy.drewN n) (by omega))
        generalize us.count u = n1 at hm hin
        generalize ks.count u = n2 at hm hik
        have hm2 : decide (n2 < n1) = false := by rw [decide_eq_false_iff_not]; omega
        clear hm
        have h0' : (0 : Int) < (k : Int) := by omega
        have hri' : ¬ u < u' := by omega
        go_wp2
        go_quiet (first | (go_at_call_of 20 (Value.slice (some ⟨b1, o1, none⟩) us.length cx); exact calls_quiet (hin.out _)) | (go_at_call_of 20 (Value.slice Ay ks.length cy); exact calls_quiet (hik.out _)))
        go_wp2
        go_roundw
        case rel => exact ⟨k + 1, by omega, by go_num, _, rfl⟩
        case measure => simp [intOf]; omega
    · obtain rfl : k = us.length := by omega
      clear hxs
      go_wp2_with fail
      refine (cut_calls _ _ _ (by omega)).mono ?_
      rintro e w3 ⟨rfl, rfl⟩
      go_wp2
      go_ret
      exact ⟨by simp [Hul.out], below_drewN hb12 q⟩

end Go.Proofs.Ytpmcoiomnkladaa
