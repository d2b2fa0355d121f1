/-
  The contract of impl.CollectSet: the list as it was, and its elements with a number put in. No statement is proved here.
-/
import Derived.Test.YtddlfaaeckijnaaCollect
import Derived.Test.YtddlfaaeckijnaaValues
import Derived.Test.YtddlfaaeckijnaaSpecWalkLater
namespace Go.Proofs.Ytddlfaaeckijnaa
open Go.RowKit Go.Shelf

theorem putTo_in (zs : List Int) (at_ v : Int) (h0 : 0 ≤ at_) (h1 : at_ < zs.length) : putTo zs at_ v zs.length = zs.set at_.toNat v := by unfold putTo; rw [if_pos ⟨h0, h1⟩]
theorem putTo_out (zs : List Int) (at_ v : Int) (h : ¬ (0 ≤ at_ ∧ at_ < zs.length)) : putTo zs at_ v zs.length = zs := by unfold putTo; rw [if_neg h]

set_option maxHeartbeats 1000000 in
/-- impl.CollectSet -/
theorem collectSet_calls (w : World) (sv : Value) (zs : List Int) (at_ v : Int) (hI : SeesI w w.heap.size sv zs) (hz : zs.length * 8 ≤ 140737488355328) :
    Calls Try.prog 34 #[sv, .int .i64 at_, .int .i64 v] w fun e w' =>
      ∃ a b, e = .returned (.tuple #[a, b]) ∧ SeesI w' w'.heap.size a zs ∧ SeesI w' w'.heap.size b (putTo zs at_ v zs.length) ∧ Below w.heap.size w w' := by
  obtain ⟨i0, hi, hz0, hz1, hz2⟩ := info_parts Try.infoInt
  have hown0 := own_empty w w.heap.size 1 3 (Nat.le_refl _)
  have hb0 := (Below.refl w.heap.size w).alloc (Nat.le_refl _) (.cells #[] 3)
  have ha0 := hI.below hb0
  obtain ⟨A, c, rfl, _⟩ := hI.form
  go_enter Try.func34, Try.ntmps34
  go_wp2_with (first
    | (at_builtin; refine wpList_append_sees _ rfl (.tmp 10) (.tmp 11) 22 rfl w.heap.size 3 i0 (.int .i64 0) 1 8 Try.underlying22 hi hz0 hz1 hz2 rfl (by decide) (.slice (some ⟨w.heap.size, 0, none⟩) 0 0) 0 [] rfl hown0 _ _ _ _ rfl ha0 (int_cell _) (by unfold maxLen; omega) (by omega) (by simp) ?_; intro v1 w1 hown1 hg1 _ _; have hb1 := below_own hb0 hown0 hg1 (Nat.le_refl _) (by simp); rw [Nat.zero_add, List.nil_append] at hown1; have hf : ∃ A1 c1, v1 = .slice A1 zs.length c1 := (let ⟨A1, c1, e, _⟩ := own_form hown1; ⟨A1, c1, e⟩); obtain ⟨A1, c1, hv1⟩ := hf; rw [hv1] at hown1 ⊢; clear hown0 hb0 hg1)
    | (go_at_call 37; refine (values_calls _ _ _ _).mono ?_; rintro e w' ⟨rfl, rfl⟩))
  have s1 := SeesI.own hown1
  have bN := Boxed.new w1 22 (.slice A1 zs.length c1)
  have hb2 := hb1.alloc hb1.size (.cells #[.slice A1 zs.length c1] 22)
  have hb2' := (Below.refl w1.heap.size w1).alloc (Nat.le_refl _) (.cells #[.slice A1 zs.length c1] 22)
  have hsz : (w1.alloc (.cells #[.slice A1 zs.length c1] 22)).heap.size = w1.heap.size + 1 := by simp
  have hs1 := hb1.size
  generalize w1.alloc (.cells #[.slice A1 zs.length c1] 22) = w2 at bN hb2 hb2' hsz ⊢
  refine (collect_calls w2 zs.length _ _ (enters_of Try.func45 (by kernel_rfl) rfl)
    (values_stops 4 (by omega) w1.heap.size w1.heap.size _ zs (by omega) w2 (by omega) (by omega) bN.cell (s1.below hb2')) belowK_t (belowK_b (by omega)) (fun _ _ h _ => h.mono (by omega)) (by omega)).mono ?_
  rintro e w3 ⟨v3, xs, rfl, rfl, hr, _, hb3⟩
  have s3 := (s1.below hb2').below (hb3.mono (by omega))
  have hbw := hb2.trans (hb3.mono (by omega))
  have hs3 := hb3.size
  clear hown1 hb1 s1 bN hb2 hb2'
  by_cases h0 : 0 ≤ at_
  · by_cases h1 : at_ < (xs.length : Int)
    · obtain ⟨g, c3, rfl⟩ := own_pos hr (by omega)
      obtain ⟨k, rfl⟩ := Int.eq_ofNat_of_zero_le h0
      have hst := hr.stored k (.int .i64 v)
      have hcell := hr.cellAt k (by omega)
      have hfz := hr.frozenAt k
      rw [List.getElem?_eq_getElem (by rw [List.length_map]; omega)] at hcell
      have hgl := (hr.lt g rfl).1
      have hp := Lib.hid (putTo_in xs (k : Int) v h0 h1)
      go_wp2
      go_ret2
      refine ⟨_, _, rfl, ?_, ?_, hbw.setCell (p := ⟨g, k, none⟩) (by show _ ≤ g; omega) _⟩
      · exact (s3.below ((Below.refl _ w3).setCell (p := ⟨g, k, none⟩) (by show _ ≤ g; omega) _)).more (by simp [World.setCell]; omega)
      · rw [hp.out, Int.toNat_natCast]
        have hfin := hst.1
        rw [map_set] at hfin
        have := Sees.own hfin
        unfold SeesI
        rw [List.length_set]
        exact this
    · have hp := Lib.hid (putTo_out xs at_ v (by omega))
      obtain ⟨A3, c3, rfl, _⟩ := own_form hr
      have hge : decide (at_ < (xs.length : Int)) = false := by simpa using h1
      go_wp2
      go_ret2
      exact ⟨_, _, rfl, s3.more (by omega), by rw [hp.out]; exact SeesI.own hr, hbw⟩
  · have hp := Lib.hid (putTo_out xs at_ v (by omega))
    obtain ⟨A3, c3, rfl, _⟩ := own_form hr
    have hge : decide (0 ≤ at_) = false := by simpa using h0
    go_wp2
    go_ret2
    exact ⟨_, _, rfl, s3.more (by omega), by rw [hp.out]; exact SeesI.own hr, hbw⟩

end Go.Proofs.Ytddlfaaeckijnaa
