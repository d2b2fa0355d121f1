/-
  The contract of impl.Sorted: all numbers ascending, and nil just if there are none. No statement is proved here.
-/
import Derived.Test.YtfagmnjhpipndaaSorted
import Derived.Test.YtfagmnjhpipndaaNumbers
namespace Go.Proofs.Ytfagmnjhpipndaa
open Go.RowKit Go.Shelf

set_option maxHeartbeats 400000 in
/-- impl.Sorted -/
theorem implSorted_calls (w : World) (sv : Value) (zs : List Int) (hI : SeesI w w.heap.size sv zs) (hz : zs.length * 8 ≤ 140737488355328) :
    Calls Try.prog 21 #[sv] w fun e w' =>
      ∃ v b, e = .returned (.tuple #[v, .bool b]) ∧ w'.ownsRow w.heap.size 3 1 v (upw zs).length ((upw zs).map (Value.int .i64)) ∧ (b = true ↔ zs = []) ∧ Below w.heap.size w w' := by
  obtain ⟨A, c, rfl, _⟩ := hI.form
  have he := fun (W : World) (a : Option Addr) (n c : Nat) => Lib.run_eql_slice_nil (P := Try.prog) W 25 3 a n c 0 0 Try.underlying25
  go_enter Try.func21, Try.ntmps21
  go_wp2_with (go_at_call 46; refine (numbers_calls _ _ _ _).mono ?_; rintro e w' ⟨rfl, rfl⟩)
  have bN := Boxed.new w 25 (.slice A zs.length c)
  have hb2 := (Below.refl _ w).alloc (Nat.le_refl _) (.cells #[.slice A zs.length c] 25)
  have hsz : (w.alloc (.cells #[.slice A zs.length c] 25)).heap.size = w.heap.size + 1 := by simp
  generalize w.alloc (.cells #[.slice A zs.length c] 25) = w2 at bN hb2 hsz ⊢
  refine (sorted_calls w2 zs.length _ _ (enters_of Try.func66 (by kernel_rfl) rfl)
    (numbers_stops 4 (by omega) w.heap.size w.heap.size _ zs (by omega) w2 (by omega) (by omega) bN.cell (hI.below hb2)) belowK_t (belowK_b (by omega)) (fun _ _ h _ => h.mono (by omega)) (by omega) (fun xs e => by rw [e]; exact Nat.le_refl _)).mono ?_
  rintro e w3 ⟨v, xs, rfl, rfl, hr, hnil, hb3⟩
  obtain ⟨A', c', rfl, _⟩ := own_form hr
  have Hn := Lib.hid ((own_isNone hr).trans hnil)
  clear hnil
  go_wp2
  go_ret2
  exact ⟨_, _, rfl, own_base hr (by omega), Hn.out, hb2.trans (hb3.mono (by omega))⟩

end Go.Proofs.Ytfagmnjhpipndaa
