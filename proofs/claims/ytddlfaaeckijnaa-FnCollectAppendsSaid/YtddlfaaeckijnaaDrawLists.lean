/-
  The contracts of the functions that draw lists and numbers. No statement is proved here.
-/
import Derived.Test.YtddlfaaeckijnaaDraw
namespace Go.Proofs.Ytddlfaaeckijnaa
open Go.RowKit Go.Shelf

/-- A new reader. -/
theorem rd_new (w : World) (v : Value) (zs : List Int) (h : SeesB w w.heap.size v zs) (hl : zs.length ≤ 1048576) (hz : ∀ z ∈ zs, 0 ≤ z ∧ z ≤ 255) : RdAt (w.alloc (.cells #[v, .int .i64 0] 58)) w.heap.size 0 :=
  ⟨v, zs, World.alloc_heap_new w _, h.below ((Below.refl _ w).alloc (Nat.le_refl _) _), hl, hz⟩

def mosts (x all : Int) : List Int := [x, all, all + 1, 1, 0, all - 1, -1, 2, 9223372036854775807, -9223372036854775808]
theorem mosts_wf (x all : Int) (h0 : 0 ≤ x) (h1 : x ≤ 1000000) (h2 : 0 ≤ all) (h3 : all ≤ 1000000) : ∀ z ∈ mosts x all, (Lit.int .i64 z).wf = true := by
  intro z hz
  simp only [mosts, List.mem_cons, List.not_mem_nil, or_false] at hz
  rcases hz with rfl | rfl | rfl | rfl | rfl | rfl | rfl | rfl | rfl | rfl <;> exact WalkArith.wf_i64 (by omega)

set_option maxHeartbeats 400000 in
/-- spec.aMost -/
theorem aMost_calls (w : World) (R p all : Nat) (h : RdAt w R p) (hp : p ≤ 999999990) (hall : all ≤ 100000) :
    Calls Try.prog 42 #[.pointer (some ⟨R, 0, none⟩), .int .i64 (all : Int)] w (NumPost R p 2 w) := by
  go_enter Try.func42, Try.ntmps42
  go_wp2_with fail
  refine (pick_calls w R p _ h (by omega) (by omega)).mono ?_
  rintro e w1 ⟨r, rfl, hr0, hr1, hg⟩
  have hlt := hg.1.lt
  have hr2 : r ≤ 1000000 := by omega
  clear hr1
  go_wp2_with fail
  have hl := own_lit w1 (R + 1) (mosts r (all : Int)) (by omega) (by simp [mosts])
  refine (one_calls _ R (p + 1) _ (mosts r (all : Int)) (hg.1.alloc _) (by omega) hl (by simp [mosts]) (by simp [mosts])).mono ?_
  rintro e w2 ⟨x, rfl, hx, hg2⟩
  have hwf := mosts_wf r (all : Int) hr0 (by omega) (by omega) (by omega) x hx
  clear hl hx
  go_wp2_with fail
  go_ret
  exact ⟨x, p + 2, rfl, hwf, Nat.le_refl _, (hg.alloc _).trans hg2⟩

/-- A list that was drawn: how it lies, how long it is, that its numbers fit. -/
def Listed (w : World) (B : Nat) (v : Value) (zs : List Int) : Prop := SeesI w B v zs ∧ zs.length ≤ 47 ∧ ∀ z ∈ zs, (Lit.int .i64 z).wf = true
theorem Listed.below {w w' : World} {B : Nat} {v : Value} {zs : List Int} (h : Listed w B v zs) (hb : Below B w w') : Listed w' B v zs := ⟨h.1.below hb, h.2⟩
theorem Listed.more {w : World} {B B' : Nat} {v : Value} {zs : List Int} (h : Listed w B v zs) (hb : B ≤ B') : Listed w B' v zs := ⟨h.1.more hb, h.2⟩

/-- What was drawn earlier stays as the reader goes on. -/
theorem Gone.sees {R p base : Nat} {w w' : World} {v : Value} {zs : List Int} (h : Gone R p w w') (hr : w.ownsRow base 3 1 v zs.length (zs.map (Value.int .i64))) (hb : R < base) : w'.ownsRow base 3 1 v zs.length (zs.map (Value.int .i64)) := h.own hr hb

/-- What spec.DrawTwoMost hands back. -/
def TwoMostPost (w : World) (e : Ending) (w' : World) : Prop :=
  ∃ (v : Value) (zs : List Int) (m n : Int), e = .returned (.tuple #[v, .int .i64 m, .int .i64 n]) ∧ Listed w' w'.heap.size v zs ∧ Below w.heap.size w w'
set_option maxHeartbeats 400000 in
/-- spec.DrawTwoMost -/
theorem drawTwoMost_calls (w : World) (bv : Value) (bs : List Int) (hb : SeesB w w.heap.size bv bs) (hl : bs.length ≤ 1048576) (hz : ∀ z ∈ bs, 0 ≤ z ∧ z ≤ 255) :
    Calls Try.prog 25 #[bv] w (TwoMostPost w) := by
  have hr := rd_new w bv bs hb hl hz
  obtain ⟨A, c, rfl, _⟩ := hb.form
  have hb0 := (Below.refl w.heap.size w).alloc (Nat.le_refl _) (.cells #[.slice A bs.length c, .int .i64 0] 58)
  go_enter Try.func25, Try.ntmps25
  go_wp2_with fail
  refine (aList_calls _ w.heap.size 0 hr (by omega)).mono ?_
  rintro e w1 ⟨v, zs, p1, rfl, hown, hzl, hwf, hp1, hg1⟩
  rw [World.size_alloc] at hown
  obtain ⟨A1, c1, rfl, _⟩ := own_form hown
  have hb1 := below_gone hb0 hg1.2 (Nat.le_refl _) (by simp)
  have Hwf := Lib.hid hwf
  clear hwf
  go_wp2_with fail
  refine (aMost_calls w1 w.heap.size p1 zs.length hg1.1 (by omega) (by omega)).mono ?_
  rintro e w2 ⟨m, p2, rfl, hm, hp2, hg2⟩
  have hb2 := below_gone hb1 hg2.2 (Nat.le_refl _) hb1.size
  go_wp2_with fail
  refine (aMost_calls w2 w.heap.size p2 zs.length hg2.1 (by omega) (by omega)).mono ?_
  rintro e w3 ⟨n, p3, rfl, hn, hp3, hg3⟩
  have hb3 := below_gone hb2 hg3.2 (Nat.le_refl _) hb2.size
  have hown3 := hg3.own (hg2.own hown (by omega)) (by omega)
  go_wp2_with fail
  go_ret3
  exact ⟨_, zs, m, n, rfl, ⟨SeesI.own hown3, hzl, Hwf.out⟩, hb3⟩

/-- What spec.DrawThreeLists hands back. -/
def ThreeListsPost (w : World) (e : Ending) (w' : World) : Prop :=
  ∃ (v1 v2 v3 : Value) (z1 z2 z3 : List Int), e = .returned (.tuple #[v1, v2, v3]) ∧ Listed w' w'.heap.size v1 z1 ∧ Listed w' w'.heap.size v2 z2 ∧ Listed w' w'.heap.size v3 z3 ∧ Below w.heap.size w w'
set_option maxHeartbeats 400000 in
/-- spec.DrawThreeLists -/
theorem drawThreeLists_calls (w : World) (bv : Value) (bs : List Int) (hb : SeesB w w.heap.size bv bs) (hl : bs.length ≤ 1048576) (hz : ∀ z ∈ bs, 0 ≤ z ∧ z ≤ 255) :
    Calls Try.prog 35 #[bv] w (ThreeListsPost w) := by
  have hr := rd_new w bv bs hb hl hz
  obtain ⟨A, c, rfl, _⟩ := hb.form
  have hb0 := (Below.refl w.heap.size w).alloc (Nat.le_refl _) (.cells #[.slice A bs.length c, .int .i64 0] 58)
  go_enter Try.func35, Try.ntmps35
  go_wp2_with fail
  refine (aList_calls _ w.heap.size 0 hr (by omega)).mono ?_
  rintro e w1 ⟨v1, z1, p1, rfl, hown1, hl1, hwf1, hp1, hg1⟩
  rw [World.size_alloc] at hown1
  have hb1 := below_gone hb0 hg1.2 (Nat.le_refl _) (by simp)
  have hs1 := hg1.1.lt
  have Hwf1 := Lib.hid hwf1
  clear hwf1
  go_wp2_with fail
  refine (aList_calls w1 w.heap.size p1 hg1.1 (by omega)).mono ?_
  rintro e w2 ⟨v2, z2, p2, rfl, hown2, hl2, hwf2, hp2, hg2⟩
  have hb2 := below_gone hb1 hg2.2 (Nat.le_refl _) hb1.size
  have hs2 := hg2.1.lt
  have Hwf2 := Lib.hid hwf2
  clear hwf2
  go_wp2_with fail
  refine (aList_calls w2 w.heap.size p2 hg2.1 (by omega)).mono ?_
  rintro e w3 ⟨v3, z3, p3, rfl, hown3, hl3, hwf3, hp3, hg3⟩
  have hb3 := below_gone hb2 hg3.2 (Nat.le_refl _) hb2.size
  have s1 := SeesI.own (hg3.own (hg2.own hown1 (by omega)) (by omega))
  have s2 := SeesI.own (hg3.own hown2 (by omega))
  have Hwf3 := Lib.hid hwf3
  clear hwf3
  go_wp2_with fail
  go_ret3
  exact ⟨_, _, _, z1, z2, z3, rfl, ⟨s1, hl1, Hwf1.out⟩, ⟨s2, hl2, Hwf2.out⟩, ⟨SeesI.own hown3, hl3, Hwf3.out⟩, hb3⟩

end Go.Proofs.Ytddlfaaeckijnaa
