/-
  The contract of spec.DrawCount. No statement is proved here.
-/
import Derived.Test.YtmfmpfcgllpflaaDrawLists
namespace Go.Proofs.Ytmfmpfcgllpflaa
open Go.RowKit Go.Shelf

def countsOf : List Int := [2, 3, 1, 0, 5, -1, 4611686018427387904, 9223372036854775807, -9223372036854775808, 40]
/-- What spec.DrawCount hands back. -/
def DrawCountPost (w : World) (e : Ending) (w' : World) : Prop :=
  ∃ (v : Value) (zs : List Int) (n : Int), e = .returned (.tuple #[v, .int .i64 n]) ∧ Listed w' w'.heap.size v zs ∧ Below w.heap.size w w'

set_option maxRecDepth 100000 in
set_option maxHeartbeats 400000 in
/-- spec.DrawCount -/
theorem drawCount_calls (w : World) (bv : Value) (bs : List Int) (hb : SeesB w w.heap.size bv bs) (hl : bs.length ≤ 1048576) (hz : ∀ z ∈ bs, 0 ≤ z ∧ z ≤ 255) :
    Calls Try.prog 30 #[bv] w (DrawCountPost w) := by
  have hr := rd_new w bv bs hb hl hz
  obtain ⟨A, c, rfl, _⟩ := hb.form
  have hb0 := (Below.refl w.heap.size w).alloc (Nat.le_refl _) (.cells #[.slice A bs.length c, .int .i64 0] 56)
  go_enter Try.func30, Try.ntmps30
  go_wp2_with fail
  refine (aList_calls _ w.heap.size 0 hr (by omega)).mono ?_
  rintro e w1 ⟨v, zs, p1, rfl, hown, hzl, hwf, hp1, hg1⟩
  rw [World.size_alloc] at hown
  have hs1 := hg1.1.lt
  obtain ⟨A1, c1, rfl, _⟩ := own_form hown
  have hb1 := below_gone hb0 hg1.2 (Nat.le_refl _) (by simp)
  have Hwf := Lib.hid hwf
  clear hwf
  go_wp2_with fail
  have hl1 := own_lit w1 (w.heap.size + 1) countsOf (by omega) (by simp [countsOf])
  refine (one_calls _ w.heap.size p1 _ countsOf (hg1.1.alloc _) (by omega) hl1 (by simp [countsOf]) (by simp [countsOf])).mono ?_
  rintro e w2 ⟨n, rfl, _, hg2⟩
  have hb2 := below_gone (hb1.alloc hb1.size (.cells (countsOf.map (Value.int .i64)).toArray 3)) hg2.2 (Nat.le_refl _) (by have := hb1.size; simp; omega)
  have hown2 := hg2.own (hown.alloc _) (by omega)
  clear hl1 hown
  go_wp2_with fail
  go_ret2
  exact ⟨_, zs, n, rfl, ⟨SeesI.own hown2, hzl, Hwf.out⟩, hb2⟩

end Go.Proofs.Ytmfmpfcgllpflaa
