/-
  The contract of spec.DrawList. No statement is proved here.
-/
import Derived.Test.YtfagmnjhpipndaaDrawLists
namespace Go.Proofs.Ytfagmnjhpipndaa
open Go.RowKit Go.Shelf

/-- What spec.DrawList hands back. -/
def DrawListPost (w : World) (e : Ending) (w' : World) : Prop :=
  ∃ (v : Value) (zs : List Int), e = .returned v ∧ Listed w' w'.heap.size v zs ∧ Below w.heap.size w w'
set_option maxHeartbeats 400000 in
/-- spec.DrawList -/
theorem drawList_calls (w : World) (bv : Value) (bs : List Int) (hb : SeesB w w.heap.size bv bs) (hl : bs.length ≤ 1048576) (hz : ∀ z ∈ bs, 0 ≤ z ∧ z ≤ 255) :
    Calls Try.prog 19 #[bv] w (DrawListPost w) := by
  have hr := rd_new w bv bs hb hl hz
  obtain ⟨A, c, rfl, _⟩ := hb.form
  have hb0 := (Below.refl w.heap.size w).alloc (Nat.le_refl _) (.cells #[.slice A bs.length c, .int .i64 0] 52)
  go_enter Try.func19, Try.ntmps19
  go_wp2_with fail
  refine (aList_calls _ w.heap.size 0 hr (by omega)).mono ?_
  rintro e w1 ⟨v, zs, p1, rfl, hown, hzl, hwf, hp1, hg1⟩
  rw [World.size_alloc] at hown
  have hb1 := below_gone hb0 hg1.2 (Nat.le_refl _) (by simp)
  have Hwf := Lib.hid hwf
  clear hwf
  go_wp2_with fail
  go_ret
  exact ⟨_, zs, rfl, ⟨SeesI.own hown, hzl, Hwf.out⟩, hb1⟩

end Go.Proofs.Ytfagmnjhpipndaa
