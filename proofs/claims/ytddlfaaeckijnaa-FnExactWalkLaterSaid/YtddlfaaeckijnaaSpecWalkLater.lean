/-
  The contract of spec.WalkLater: the list with a number put in at an index, if there is one. No statement is proved here.
-/
import Derived.Test.YtddlfaaeckijnaaBase
namespace Go.Proofs.Ytddlfaaeckijnaa
open Go.RowKit Go.Shelf

/-- v at the index at, if it is one below k. -/
def putTo (zs : List Int) (at_ v : Int) (k : Nat) : List Int := if 0 ≤ at_ ∧ at_ < (k : Int) then zs.set at_.toNat v else zs
theorem putTo_length (zs : List Int) (at_ v : Int) (k : Nat) : (putTo zs at_ v k).length = zs.length := by unfold putTo; split <;> simp
theorem putTo_zero (zs : List Int) (at_ v : Int) : putTo zs at_ v 0 = zs := by unfold putTo; rw [if_neg (by omega)]
theorem putTo_hit (zs : List Int) (v : Int) (k : Nat) : putTo zs (k : Int) v (k + 1) = (putTo zs (k : Int) v k).set k v := by
  unfold putTo; rw [if_pos (by omega), if_neg (by omega)]; simp
theorem putTo_miss (zs : List Int) (at_ v : Int) (k : Nat) (h : at_ ≠ (k : Int)) : putTo zs at_ v (k + 1) = putTo zs at_ v k := by
  unfold putTo
  by_cases h1 : 0 ≤ at_ ∧ at_ < (k : Int)
  · rw [if_pos h1, if_pos (by omega)]
  · rw [if_neg h1, if_neg (by omega)]

theorem map_set (zs : List Int) (k : Nat) (v : Int) : (zs.map (Value.int .i64)).set k (.int .i64 v) = (zs.set k v).map (Value.int .i64) := by rw [List.map_set]

set_option maxHeartbeats 1000000 in
/-- spec.WalkLater -/
theorem specWalkLater_calls (w : World) (B : Nat) (sv : Value) (zs : List Int) (at_ v : Int) (hI : SeesI w B sv zs) (hB : B ≤ w.heap.size) (hz : zs.length * 8 ≤ 140737488355328) :
    Calls Try.prog 27 #[sv, .int .i64 at_, .int .i64 v] w fun e w' =>
      ∃ x, e = .returned x ∧ w'.ownsRow w.heap.size 3 1 x (putTo zs at_ v zs.length).length ((putTo zs at_ v zs.length).map (Value.int .i64)) ∧ Below w.heap.size w w' := by
  obtain ⟨i0, hi, hz0, hz1, hz2⟩ := info_parts Try.infoInt
  have hown0 := own_empty w w.heap.size 1 3 (Nat.le_refl _)
  have hb0 := (Below.refl w.heap.size w).alloc (Nat.le_refl _) (.cells #[] 3)
  have ha0 := (hI.more hB).below hb0
  obtain ⟨A, c, rfl, _⟩ := hI.form
  go_enter Try.func27, Try.ntmps27
  go_wp2_with (at_builtin; refine wpList_append_sees _ rfl (.tmp 9) (.tmp 10) 22 rfl w.heap.size 3 i0 (.int .i64 0) 1 8 Try.underlying22 hi hz0 hz1 hz2 rfl (by decide) (.slice (some ⟨w.heap.size, 0, none⟩) 0 0) 0 [] rfl hown0 _ _ _ _ rfl ha0 (int_cell _) (by unfold maxLen; omega) (by omega) (by simp) ?_; intro v1 w1 hown1 hg1 hn1 _; have hb1 := below_own hb0 hown0 hg1 (Nat.le_refl _) (by simp); have hg : ∃ g cp, v1 = .slice (some ⟨g, 0, none⟩) zs.length cp := (own_some hown1 (by simp [hn1])); obtain ⟨g, cp, hv1⟩ := hg; rw [hv1] at hown1 ⊢; clear hown0 hb0 hn1 hg1)
  rw [Nat.zero_add, List.nil_append] at hown1
  clear ha0
  go_loopw [8] (fun i wr => ∃ k : Nat, k ≤ zs.length ∧ i = .int .i64 k ∧ wr.ownsRow w.heap.size 3 1 (.slice (some ⟨g, 0, none⟩) zs.length cp) zs.length ((putTo zs at_ v k).map (Value.int .i64)) ∧ Below w.heap.size w wr) (fun i _ => zs.length - (intOf i).toNat)
  case atStart => exact ⟨0, Nat.zero_le _, rfl, by rw [putTo_zero]; exact hown1, hb1⟩
  case round =>
    obtain ⟨k, hk, rfl, hown, hb⟩ := hrel
    clear hown1 hb1
    by_cases hlt : k < zs.length
    · have hst := hown.stored k (.int .i64 v)
      have hcell := hown.cellAt k (by omega)
      have hfz := hown.frozenAt k
      rw [List.getElem?_eq_getElem (by rw [List.length_map, putTo_length]; exact hlt)] at hcell
      by_cases he : at_ = (k : Int)
      · subst he
        go_wp2
        go_roundw
        case rel => exact ⟨k + 1, by omega, by go_num, by rw [putTo_hit, ← map_set]; exact hst.1, hb.setCell (p := ⟨g, k, none⟩) (hown.lt g rfl).1 _⟩
        case measure => simp [intOf]; omega
      · have he' : ((k : Int) == at_) = false := by rw [beq_eq_false_iff_ne]; omega
        have hm := Lib.hid (putTo_miss zs at_ v k he)
        clear he
        go_wp2
        go_roundw
        case rel => exact ⟨k + 1, by omega, by go_num, by rw [hm.out]; exact hown, hb⟩
        case measure => simp [intOf]; omega
    · obtain rfl : k = zs.length := by omega
      go_wp2
      go_ret
      exact ⟨_, rfl, by rw [putTo_length]; exact hown, hb⟩

end Go.Proofs.Ytddlfaaeckijnaa
