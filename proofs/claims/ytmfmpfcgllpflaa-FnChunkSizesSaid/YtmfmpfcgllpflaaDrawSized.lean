/-
  The contracts of spec.DrawParts and spec.DrawSized. No statement is proved here.
-/
import Derived.Test.YtmfmpfcgllpflaaDrawLists
namespace Go.Proofs.Ytmfmpfcgllpflaa
open Go.RowKit Go.Shelf

def sizesOf (all : Int) : List Int := [2, 3, 1, all, all - 1, all + 1, 0, -1, 9223372036854775807, 4, -9223372036854775808]
def mostsOf (all : Int) : List Int := [all, all, 1, 2, 0, -1, all + 1, 9223372036854775807]
theorem sizesOf_wf (all : Int) (h2 : 0 ≤ all) (h3 : all ≤ 1000000) : ∀ z ∈ sizesOf all, (Lit.int .i64 z).wf = true := by
  intro z hz
  simp only [sizesOf, List.mem_cons, List.not_mem_nil, or_false] at hz
  rcases hz with rfl | rfl | rfl | rfl | rfl | rfl | rfl | rfl | rfl | rfl | rfl <;> exact WalkArith.wf_i64 (by omega)

/-- What spec.DrawParts hands back. -/
def DrawPartsPost (w : World) (e : Ending) (w' : World) : Prop :=
  ∃ (v : Value) (zs : List Int) (n m : Int), e = .returned (.tuple #[v, .int .i64 n, .int .i64 m]) ∧ Listed w' w'.heap.size v zs ∧ (Lit.int .i64 n).wf = true ∧ Below w.heap.size w w'
/-- What spec.DrawSized hands back. -/
def DrawSizedPost (w : World) (e : Ending) (w' : World) : Prop :=
  ∃ (v : Value) (zs : List Int) (n : Int), e = .returned (.tuple #[v, .int .i64 n]) ∧ Listed w' w'.heap.size v zs ∧ (Lit.int .i64 n).wf = true ∧ Below w.heap.size w w'

set_option maxRecDepth 100000 in
set_option maxHeartbeats 400000 in
/-- spec.DrawParts -/
theorem drawParts_calls (w : World) (bv : Value) (bs : List Int) (hb : SeesB w w.heap.size bv bs) (hl : bs.length ≤ 1048576) (hz : ∀ z ∈ bs, 0 ≤ z ∧ z ≤ 255) :
    Calls Try.prog 44 #[bv] w (DrawPartsPost w) := by
  have hr := rd_new w bv bs hb hl hz
  obtain ⟨A, c, rfl, _⟩ := hb.form
  have hb0 := (Below.refl w.heap.size w).alloc (Nat.le_refl _) (.cells #[.slice A bs.length c, .int .i64 0] 56)
  go_enter Try.func44, Try.ntmps44
  go_wp2_with fail
  refine (aList_calls _ w.heap.size 0 hr (by omega)).mono ?_
  rintro e w1 ⟨v, zs, p1, rfl, hown, hzl, hwf, hp1, hg1⟩
  rw [World.size_alloc] at hown
  have hs1 := hg1.1.lt
  obtain ⟨A1, c1, rfl, _⟩ := own_form hown
  have hb1 := below_gone hb0 hg1.2 (Nat.le_refl _) (by simp)
  have Hwf := Lib.hid hwf
  clear hwf
  go_wp2_with fail
  have hl1 := own_lit w1 (w.heap.size + 1) (sizesOf (zs.length : Int)) (by omega) (by simp [sizesOf])
  refine (one_calls _ w.heap.size p1 _ (sizesOf (zs.length : Int)) (hg1.1.alloc _) (by omega) hl1 (by simp [sizesOf]) (by simp [sizesOf])).mono ?_
  rintro e w2 ⟨n, rfl, hn, hg2⟩
  have hnw := sizesOf_wf (zs.length : Int) (by omega) (by omega) n hn
  have hb2 := below_gone (hb1.alloc hb1.size (.cells ((sizesOf (zs.length : Int)).map (Value.int .i64)).toArray 3)) hg2.2 (Nat.le_refl _) (by have := hb1.size; simp; omega)
  have hown2 := hg2.own (hown.alloc _) (by omega)
  have hs2 := hg2.1.lt
  clear hl1 hn hown
  go_wp2_with fail
  have hl2 := own_lit w2 (w.heap.size + 1) (mostsOf (zs.length : Int)) (by omega) (by simp [mostsOf])
  refine (one_calls _ w.heap.size (p1 + 1) _ (mostsOf (zs.length : Int)) (hg2.1.alloc _) (by omega) hl2 (by simp [mostsOf]) (by simp [mostsOf])).mono ?_
  rintro e w3 ⟨m, rfl, _, hg3⟩
  have hb3 := below_gone (hb2.alloc hb2.size (.cells ((mostsOf (zs.length : Int)).map (Value.int .i64)).toArray 3)) hg3.2 (Nat.le_refl _) (by have := hb2.size; simp; omega)
  have hown3 := hg3.own (hown2.alloc _) (by omega)
  clear hl2 hown2
  go_wp2_with fail
  go_ret3
  exact ⟨_, zs, n, m, rfl, ⟨SeesI.own hown3, hzl, Hwf.out⟩, hnw, hb3⟩

/-- spec.DrawSized -/
theorem drawSized_calls (w : World) (bv : Value) (bs : List Int) (hb : SeesB w w.heap.size bv bs) (hl : bs.length ≤ 1048576) (hz : ∀ z ∈ bs, 0 ≤ z ∧ z ≤ 255) :
    Calls Try.prog 29 #[bv] w (DrawSizedPost w) := by
  have hd := Lib.hid (drawParts_calls w bv bs hb hl hz)
  clear hb hz
  go_enter Try.func29, Try.ntmps29
  go_wp2_with fail
  refine hd.out.mono ?_
  rintro e w1 ⟨v, zs, n, m, rfl, hL, hn, hb1⟩
  have HL := Lib.hid hL
  have Hn := Lib.hid hn
  clear hL hn
  go_wp2_with fail
  go_ret2
  exact ⟨v, zs, n, rfl, HL.out, Hn.out, hb1⟩

end Go.Proofs.Ytmfmpfcgllpflaa
