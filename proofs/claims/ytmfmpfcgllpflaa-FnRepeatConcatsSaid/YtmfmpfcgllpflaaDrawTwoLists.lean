/-
  The contract of spec.DrawTwoLists. No statement is proved here.
-/
import Derived.Test.YtmfmpfcgllpflaaDrawLists
namespace Go.Proofs.Ytmfmpfcgllpflaa
open Go.RowKit Go.Shelf

/-- What spec.DrawTwoLists hands back. -/
def DrawTwoListsPost (w : World) (e : Ending) (w' : World) : Prop :=
  ∃ (v1 v2 : Value) (z1 : List Int) (z2 : List Int), e = .returned (.tuple #[v1, v2]) ∧ Listed w' w'.heap.size v1 z1 ∧ Listed w' w'.heap.size v2 z2 ∧ Below w.heap.size w w'
set_option maxHeartbeats 400000 in
/-- spec.DrawTwoLists -/
theorem drawTwoLists_calls (w : World) (bv : Value) (bs : List Int) (hb : SeesB w w.heap.size bv bs) (hl : bs.length ≤ 1048576) (hz : ∀ z ∈ bs, 0 ≤ z ∧ z ≤ 255) :
    Calls Try.prog 23 #[bv] w (DrawTwoListsPost w) := by
  have hr := rd_new w bv bs hb hl hz
  obtain ⟨A, c, rfl, _⟩ := hb.form
  have hb0 := (Below.refl w.heap.size w).alloc (Nat.le_refl _) (.cells #[.slice A bs.length c, .int .i64 0] 56)
  go_enter Try.func23, Try.ntmps23
  go_wp2_with fail
  refine (aList_calls _ w.heap.size 0 hr (by omega)).mono ?_
  rintro e w1 ⟨v1, z1, p1, rfl, hown1, hl1, hwf1, hp1, hg1⟩
  rw [World.size_alloc] at hown1
  have hb1 := below_gone hb0 hg1.2 (Nat.le_refl _) (by simp)
  have hs1 := hg1.1.lt
  have Hwf1 := Lib.hid hwf1
  clear hwf1
  go_wp2_with fail
  refine (aList_calls w1 w.heap.size p1 hg1.1 (by omega)).mono ?_
  rintro e w2 ⟨v2, z2, p2, rfl, hown2, hl2, hwf2, hp2, hg2⟩
  have hb2 := below_gone hb1 hg2.2 (Nat.le_refl _) hb1.size
  have hs2 := hg2.1.lt
  have Hwf2 := Lib.hid hwf2
  clear hwf2
  go_wp2_with fail
  go_ret2
  exact ⟨_, _, z1, z2, rfl, ⟨SeesI.own (hg2.own hown1 (by omega)), hl1, Hwf1.out⟩, ⟨SeesI.own hown2, hl2, Hwf2.out⟩, hb2⟩


end Go.Proofs.Ytmfmpfcgllpflaa
