/-
  The contract of spec.DrawMost. No statement is proved here.
-/
import Derived.Test.YtmfmpfcgllpflaaDrawLists
namespace Go.Proofs.Ytmfmpfcgllpflaa
open Go.RowKit Go.Shelf

/-- What spec.DrawMost hands back. -/
def DrawMostPost (w : World) (e : Ending) (w' : World) : Prop :=
  ∃ (v : Value) (zs : List Int) (m : Int), e = .returned (.tuple #[v, .int .i64 m]) ∧ Listed w' w'.heap.size v zs ∧ Below w.heap.size w w'
set_option maxHeartbeats 400000 in
/-- spec.DrawMost -/
theorem drawMost_calls (w : World) (bv : Value) (bs : List Int) (hb : SeesB w w.heap.size bv bs) (hl : bs.length ≤ 1048576) (hz : ∀ z ∈ bs, 0 ≤ z ∧ z ≤ 255) :
    Calls Try.prog 18 #[bv] w (DrawMostPost w) := by
  have hr := rd_new w bv bs hb hl hz
  obtain ⟨A, c, rfl, _⟩ := hb.form
  have hb0 := (Below.refl w.heap.size w).alloc (Nat.le_refl _) (.cells #[.slice A bs.length c, .int .i64 0] 56)
  go_enter Try.func18, Try.ntmps18
  go_wp2_with fail
  refine (aList_calls _ w.heap.size 0 hr (by omega)).mono ?_
  rintro e w1 ⟨v, zs, p1, rfl, hown, hzl, hwf, hp1, hg1⟩
  rw [World.size_alloc] at hown
  obtain ⟨A1, c1, rfl, _⟩ := own_form hown
  have hb1 := below_gone hb0 hg1.2 (Nat.le_refl _) (by simp)
  have Hwf := Lib.hid hwf
  clear hwf
  go_wp2_with fail
  refine (aMost_calls w1 w.heap.size p1 zs.length hg1.1 (by omega) (by omega)).mono ?_
  rintro e w2 ⟨m, p2, rfl, hm, hp2, hg2⟩
  have hb2 := below_gone hb1 hg2.2 (Nat.le_refl _) hb1.size
  have hown2 := hg2.own hown (by omega)
  go_wp2_with fail
  go_ret2
  exact ⟨_, zs, m, rfl, ⟨SeesI.own hown2, hzl, Hwf.out⟩, hb2⟩

end Go.Proofs.Ytmfmpfcgllpflaa
