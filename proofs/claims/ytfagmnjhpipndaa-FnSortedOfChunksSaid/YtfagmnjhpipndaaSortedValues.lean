/-
  The contract of impl.SortedValues. No statement is proved here.
-/
import Derived.Test.YtfagmnjhpipndaaSorted
import Derived.Test.YtfagmnjhpipndaaValues
namespace Go.Proofs.Ytfagmnjhpipndaa
open Go.RowKit Go.Shelf

set_option maxHeartbeats 400000 in
/-- impl.SortedValues -/
theorem sortedValues_calls (w : World) (va : Value) (xs : List Int) (ha : SeesI w w.heap.size va xs) (hl : xs.length * 8 ≤ 140737488355328) :
    Calls Try.prog 27 #[va] w fun e w' => ∃ v u, e = .returned (.tuple #[v, u]) ∧ SeesI w' w'.heap.size v xs ∧ w'.ownsRow w.heap.size 3 1 u (upw xs).length ((upw xs).map (Value.int .i64)) ∧ Below w.heap.size w w' := by
  obtain ⟨i0, hi, hz0, hz1, hz2⟩ := info_parts Try.infoInt
  have hown0 := own_empty w w.heap.size 1 3 (Nat.le_refl _)
  have hb0 := (Below.refl w.heap.size w).alloc (Nat.le_refl _) (.cells #[] 3)
  have ha0 := ha.below hb0
  obtain ⟨A, c, rfl, _⟩ := ha.form
  go_enter Try.func27, Try.ntmps27
  go_wp2_with (at_builtin; refine wpList_append_sees _ rfl (.tmp 6) (.tmp 7) 25 rfl w.heap.size 3 i0 (.int .i64 0) 1 8 Try.underlying25 hi hz0 hz1 hz2 rfl (by decide) (.slice (some ⟨w.heap.size, 0, none⟩) 0 0) 0 [] rfl hown0 _ _ _ _ rfl ha0 (int_cell _) (by unfold maxLen; omega) (by omega) (by simp) ?_; intro v1 w1 hown1 hg1 _ _; have hb1 := below_own hb0 hown0 hg1 (Nat.le_refl _) (by simp); clear hown0 hb0)
  rw [Nat.zero_add, List.nil_append] at hown1
  obtain ⟨A1, c1, rfl, _⟩ := own_form hown1
  have s1 := SeesI.own hown1
  have bN := Boxed.new w1 25 (.slice A1 xs.length c1)
  have hbx := (Below.refl w1.heap.size w1).alloc (Nat.le_refl _) (.cells #[.slice A1 xs.length c1] 25)
  have hsz : (w1.alloc (.cells #[.slice A1 xs.length c1] 25)).heap.size = w1.heap.size + 1 := by simp
  have hs1 := hb1.size
  go_wp2_with (go_at_call 49; refine (values_calls _ _ _ _).mono ?_; rintro e w' ⟨rfl, rfl⟩)
  generalize w1.alloc (.cells #[.slice A1 xs.length c1] 25) = w2 at bN hbx hsz ⊢
  refine (sorted_calls w2 xs.length _ _ (enters_of Try.func69 (by kernel_rfl) rfl)
    (values_stops 4 (by omega) w1.heap.size w1.heap.size _ xs (by omega) w2 (by omega) (by omega) bN.cell (s1.below hbx)) belowK_t (belowK_b (by omega)) (fun _ _ h _ => h.mono (by omega)) (by omega) (fun xs e => by rw [e]; exact Nat.le_refl _)).mono ?_
  rintro e w3 ⟨u, zs, rfl, rfl, hr, _, hb3⟩
  have hs3 := hb3.size
  have s3 := ((s1.below hbx).below (hb3.mono (by omega))).more (B' := w3.heap.size) (by omega)
  clear hown1
  go_wp2_with fail
  go_ret2
  exact ⟨_, _, rfl, s3, own_base hr (by omega), (hb1.trans (hbx.mono hs1)).trans (hb3.mono (by omega))⟩

end Go.Proofs.Ytfagmnjhpipndaa
