/-
  The contract of impl.SortedFunc. No statement is proved here.
-/
import Derived.Test.YtpnlindmcomikaaSortedFunc
import Derived.Test.YtpnlindmcomikaaNumbers
namespace Go.Proofs.Ytpnlindmcomikaa
open Go.RowKit Go.Shelf

/-- What impl.SortedFunc hands back. -/
def SortedFuncPost (w : World) (zs tb : List Int) (e : Ending) (w' : World) : Prop :=
  ∃ v b ys, e = .returned (.tuple #[v, .bool b]) ∧ ys.Perm zs ∧ Rises tb ys ∧ w'.ownsRow w.heap.size 3 1 v ys.length (ys.map (Value.int .i64)) ∧ (b = true ↔ zs = []) ∧ Below w.heap.size w w'

set_option maxHeartbeats 400000 in
/-- impl.SortedFunc -/
theorem implSortedFunc_calls (w : World) (sv tv : Value) (zs tb : List Int) (hI : SeesI w w.heap.size sv zs) (hT : SeesI w w.heap.size tv tb) (hz : zs.length * 8 ≤ 140737488355328) (hzt : tb.length ≤ 1000000000000000000) :
    Calls Try.prog 9 #[sv, tv] w (SortedFuncPost w zs tb) := by
  obtain ⟨A, c, rfl, _⟩ := hI.form
  obtain ⟨At, ct, rfl, _⟩ := hT.form
  have he := fun (W : World) (a : Option Addr) (n c : Nat) => Lib.run_eql_slice_nil (P := Try.prog) W 23 3 a n c 0 0 Try.underlying23
  go_enter Try.func9, Try.ntmps9
  go_wp2_with (first
    | (go_at_call 22; refine (numbers_calls _ _ _ _).mono ?_; rintro e w' ⟨rfl, rfl⟩)
    | (go_at_call 23; refine (byRank_calls _ _ _ _).mono ?_; rintro e w' ⟨rfl, rfl⟩))
  have bN := (Boxed.new w 23 (.slice A zs.length c)).alloc (.cells #[.slice At tb.length ct] 23)
  have bT := Boxed.new (w.alloc (.cells #[.slice A zs.length c] 23)) 23 (.slice At tb.length ct)
  have hb2 := ((Below.refl _ w).alloc (Nat.le_refl _) (.cells #[.slice A zs.length c] 23)).alloc (by simp) (.cells #[.slice At tb.length ct] 23)
  have hsz : ((w.alloc (.cells #[.slice A zs.length c] 23)).alloc (.cells #[.slice At tb.length ct] 23)).heap.size = w.heap.size + 2 := by simp
  rw [World.size_alloc] at bT
  generalize (w.alloc (.cells #[.slice A zs.length c] 23)).alloc (.cells #[.slice At tb.length ct] 23) = w2 at bN bT hb2 hsz ⊢
  refine (sortedFunc_calls w2 zs.length _ (w.heap.size + 1) _ _ tb bT.cell (by omega) ((hT.below hb2).more (by omega)) hzt (enters_of Try.func33 (by kernel_rfl) rfl)
    (numbers_stops 4 (by omega) w.heap.size w.heap.size _ zs (by omega) w2 (by omega) (by omega) bN.cell (hI.below hb2)) belowK_t (belowK_b (by omega)) (fun _ _ h _ => h.mono (by omega)) (by omega) (fun xs e => by rw [e]; exact Nat.le_refl _)).mono ?_
  rintro e w3 ⟨v, xs, ys, rfl, rfl, hp, hri, hr, hnil, hb3⟩
  obtain ⟨A', c', rfl, _⟩ := own_form hr
  have Hn := Lib.hid ((own_isNone hr).trans hnil)
  have Hp := Lib.hid hp
  have Hri := Lib.hid hri
  clear hnil hp hri
  go_wp2
  go_ret2
  exact ⟨_, _, ys, rfl, Hp.out, Hri.out, own_base hr (by omega), Hn.out, hb2.trans (hb3.mono (by omega))⟩

end Go.Proofs.Ytpnlindmcomikaa
