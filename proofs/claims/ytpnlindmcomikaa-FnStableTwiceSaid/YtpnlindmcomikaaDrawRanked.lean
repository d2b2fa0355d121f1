/-
  The contracts of spec.aTable, spec.DrawRanked, spec.DrawTwoRanked. No statement is proved here.
-/
import Derived.Test.YtpnlindmcomikaaDrawLists
namespace Go.Proofs.Ytpnlindmcomikaa
open Go.RowKit Go.Shelf

/-- A row that is new since w is written. -/
theorem Gone.grown {R p g : Nat} {a b c : World} (h : Gone R p a b) (hg : b.grownBy c (some g)) (hR : R < g) (ha : a.heap.size ≤ g) : Gone R p a c :=
  ⟨h.1.kept hg (fun j e => by cases e; exact hR), ⟨hg.os.trans h.2.os, hg.tape.trans h.2.tape, hg.output.trans h.2.output, Nat.le_trans h.2.size hg.size, fun i hi hne => (hg.block i (Nat.lt_of_lt_of_le hi h.2.size) (fun e => by cases e; omega)).trans (h.2.block i hi hne)⟩⟩

theorem map_setI (zs : List Int) (k : Nat) (z : Int) : (zs.map (Value.int .i64)).set k (.int .i64 z) = (zs.set k z).map (Value.int .i64) := (List.map_set).symm
/-- A table, of at most 5 ranks. -/
def TabPost (R p k : Nat) (w : World) (e : Ending) (w' : World) : Prop :=
  ∃ (v : Value) (zs : List Int) (p' : Nat), e = .returned v ∧ w'.ownsRow w.heap.size 3 1 v zs.length (zs.map (Value.int .i64)) ∧ zs.length ≤ 5 ∧ p' ≤ p + k ∧ Gone R p' w w'

def tabSizes : List Int := [3, 2, 4, 1, 5, 0]
theorem tabSizes_le : ∀ x ∈ tabSizes, 0 ≤ x ∧ x ≤ 5 := by decide
def tabEnds : List Int := [9223372036854775807, -9223372036854775808]

set_option maxHeartbeats 1000000 in
/-- spec.aTable -/
theorem aTable_calls (w : World) (R p : Nat) (h : RdAt w R p) (hp : p ≤ 999995000) :
    Calls Try.prog 20 #[.pointer (some ⟨R, 0, none⟩)] w (TabPost R p 20 w) := by
  obtain ⟨i0, hi, hz0, hz1, hz2⟩ := info_parts Try.infoInt
  have hlt := h.lt
  have hown0 := own_empty w w.heap.size 1 3 (Nat.le_refl _)
  go_enter Try.func20, Try.ntmps20
  go_wp2_with fail
  have hl := own_lit (w.alloc (.cells #[] 3)) (R + 1) tabSizes (by simp; omega) (by decide)
  refine (one_calls _ R p _ tabSizes ((h.alloc _).alloc _) (by omega) (by simpa [tabSizes] using hl) (by decide) (by decide)).mono ?_
  rintro e w1 ⟨N, rfl, hN, hg⟩
  obtain ⟨hN0, hN1⟩ := tabSizes_le N hN
  obtain ⟨m, rfl⟩ := Int.eq_ofNat_of_zero_le hN0
  have hown1 := hg.own (hown0.alloc _) (by omega)
  have hg1 : Gone R (p + 1) w w1 := ⟨hg.1, grown_trans (grown_alloc (World.grownBy_alloc w _ _) _) hg.2⟩
  clear hl hown0 hN hg hN0
  go_wp2_with fail
  go_loopw [3, 4] (fun v i wr => ∃ (k p' : Nat) (zs : List Int), k ≤ m ∧ i = .int .i64 k ∧ zs.length = m - k ∧ wr.ownsRow w.heap.size 3 1 v zs.length (zs.map (Value.int .i64)) ∧ p' ≤ p + 1 + 3 * (m - k) ∧ Gone R p' w wr) (fun _ i _ => (intOf i).toNat)
  case atStart => exact ⟨m, p + 1, [], Nat.le_refl _, rfl, by simp, hown1, by omega, hg1⟩
  case round =>
    obtain ⟨k, p', zs, hk, rfl, hzl, hrow, hpp, hgr⟩ := hrel
    have Hzl := Lib.hid hzl
    have hzl' : zs.length ≤ 5 := by omega
    clear hown1 hg1 hzl
    obtain ⟨A', c', rfl, _⟩ := own_form hrow
    have hws := hgr.2.size
    by_cases hk0 : 0 < k
    · go_wp2_with fail
      refine (pick_calls wr R p' _ hgr.1 (by omega) (by omega)).mono ?_
      rintro e w2 ⟨x, rfl, _, _, hg2⟩
      have hrow2 := hg2.own hrow (by omega)
      have hs2 := hg2.2.size
      go_wp2_with (at_builtin; refine wpList_append_own _ rfl _ _ 23 rfl w.heap.size 3 i0 (.int .i64 0) 1 8 Try.underlying23 hi hz0 hz1 hz2 rfl (by decide) _ _ _ rfl (hrow2.alloc _) ⟨w2.heap.size, 0, none⟩ 1 1 [.int .i64 x] rfl rfl (cell_one_new _ _ _) (by simp [Value.oneCell']) (by unfold maxLen; omega) (by omega) (by simp; omega) ?_; intro v' w3 hown' hgrow _; obtain ⟨g3, c3, rfl⟩ := own_pos hown' (by omega))
      have hg3 : Gone R (p' + 1) w w3 := by
        have ha := (hgr.trans hg2).alloc (.cells #[.int .i64 x] 3)
        have hlow : ∀ g, (Value.slice A' zs.length c').ownBlock = some g → R < g := fun g e => by have := ((hrow2.alloc (.cells #[.int .i64 x] 3)).lt g e).1; omega
        refine ⟨ha.1.kept hgrow hlow, ?_⟩
        have h1 := ha.2
        refine ⟨hgrow.os.trans h1.os, hgrow.tape.trans h1.tape, hgrow.output.trans h1.output, Nat.le_trans h1.size hgrow.size, fun i hi' hne => (hgrow.block i (Nat.lt_of_lt_of_le hi' h1.size) (fun e => ?_)).trans (h1.block i hi' hne)⟩
        have := ((hrow2.alloc (.cells #[.int .i64 x] 3)).lt i e.symm).1
        omega
      have hrow3 : w3.ownsRow w.heap.size 3 1 (.slice (some ⟨g3, 0, none⟩) (zs.length + 1) c3) (zs ++ [x]).length ((zs ++ [x]).map (Value.int .i64)) := by simpa using hown'
      have hgl := (hown'.lt g3 rfl).1
      clear hown' hgrow hrow hrow2 hg2 hgr
      refine (pick_calls w3 R (p' + 1) _ hg3.1 (by omega) (by omega)).mono ?_
      rintro e w4 ⟨r, rfl, _, _, hg4⟩
      have hrow4 := hg4.own hrow3 (by omega)
      have hg34 := hg3.trans hg4
      have hlt4 := hg4.1.lt
      clear hrow3 hg3
      by_cases hr0 : r = 0
      · have t : (r == 0) = true := by rw [beq_iff_eq]; exact hr0
        subst hr0
        go_wp2_with fail
        have hl := own_lit w4 (R + 1) tabEnds (by omega) (by decide)
        refine (one_calls _ R (p' + 2) _ tabEnds (hg4.1.alloc _) (by omega) hl (by decide) (by decide)).mono ?_
        rintro e w5 ⟨y, rfl, _, hg5⟩
        have hrow5 := hg5.own (hrow4.alloc _) (by omega)
        have hg45 := (hg34.alloc _).trans hg5
        rw [List.length_append] at hrow5
        obtain ⟨hst, hgw⟩ := hrow5.stored zs.length (.int .i64 y)
        have hcell := hrow5.cellAt zs.length (by simp)
        have hfz := hrow5.frozenAt zs.length
        rw [List.getElem?_eq_getElem (by simp)] at hcell
        have hg6 := hg45.grown hgw (by omega) (by omega)
        rw [map_setI] at hst
        have hst' : (w5.setCell ⟨g3, zs.length, none⟩ (.int .i64 y)).ownsRow w.heap.size 3 1 (.slice (some ⟨g3, 0, none⟩) (zs.length + 1) c3) ((zs ++ [x]).set zs.length y).length (((zs ++ [x]).set zs.length y).map (Value.int .i64)) := by rw [List.length_set, List.length_append]; exact hst
        clear hl hst hrow5 hrow4
        go_wp2_with fail
        go_roundw
        case rel => exact ⟨k - 1, p' + 3, (zs ++ [x]).set zs.length y, by omega, by rw [show ((k - 1 : Nat) : Int) = (k : Int) - 1 by omega], by rw [List.length_set, List.length_append, Hzl.out]; simp; omega, hst', by omega, hg6⟩
        case measure => simp [intOf]; omega
      · have t : (r == 0) = false := by rw [beq_eq_false_iff_ne]; exact hr0
        go_wp2_with fail
        go_roundw
        case rel => exact ⟨k - 1, p' + 2, zs ++ [x], by omega, by rw [show ((k - 1 : Nat) : Int) = (k : Int) - 1 by omega], by rw [List.length_append, Hzl.out]; simp; omega, hrow4, by omega, hg34⟩
        case measure => simp [intOf]; omega
    · obtain rfl : k = 0 := by omega
      go_wp2_with fail
      go_ret
      exact ⟨_, zs, p', rfl, hrow, hzl', by omega, hgr⟩

/-- What spec.DrawRanked hands back. -/
def DrawRankedPost (w : World) (e : Ending) (w' : World) : Prop :=
  ∃ (v1 v2 : Value) (z1 t1 : List Int), e = .returned (.tuple #[v1, v2]) ∧ Listed w' w'.heap.size v1 z1 ∧ SeesI w' w'.heap.size v2 t1 ∧ t1.length ≤ 5 ∧ Below w.heap.size w w'
set_option maxHeartbeats 400000 in
/-- spec.DrawRanked -/
theorem drawRanked_calls (w : World) (bv : Value) (bs : List Int) (hb : SeesB w w.heap.size bv bs) (hl : bs.length ≤ 1048576) (hz : ∀ z ∈ bs, 0 ≤ z ∧ z ≤ 255) :
    Calls Try.prog 8 #[bv] w (DrawRankedPost w) := by
  have hr := rd_new w bv bs hb hl hz
  obtain ⟨A, c, rfl, _⟩ := hb.form
  have hb0 := (Below.refl w.heap.size w).alloc (Nat.le_refl _) (.cells #[.slice A bs.length c, .int .i64 0] 41)
  go_enter Try.func8, Try.ntmps8
  go_wp2_with fail
  refine (aList_calls _ w.heap.size 0 hr (by omega)).mono ?_
  rintro e w1 ⟨v1, z1, p1, rfl, hown1, hl1, hwf1, hp1, hg1⟩
  rw [World.size_alloc] at hown1
  have hb1 := below_gone hb0 hg1.2 (Nat.le_refl _) (by simp)
  have hs1 := hg1.1.lt
  have Hwf1 := Lib.hid hwf1
  clear hwf1
  go_wp2_with fail
  refine (aTable_calls w1 w.heap.size p1 hg1.1 (by omega)).mono ?_
  rintro e w2 ⟨v2, z2, p2, rfl, hown2, hl2, hp2, hg2⟩
  have hb2 := below_gone hb1 hg2.2 (Nat.le_refl _) hb1.size
  go_wp2_with fail
  go_ret2
  exact ⟨_, _, z1, z2, rfl, ⟨SeesI.own (hg2.own hown1 (by omega)), hl1, Hwf1.out⟩, SeesI.own hown2, hl2, hb2⟩

/-- What spec.DrawTwoRanked hands back. -/
def DrawTwoRankedPost (w : World) (e : Ending) (w' : World) : Prop :=
  ∃ (v1 v2 v3 : Value) (z1 t1 t2 : List Int), e = .returned (.tuple #[v1, v2, v3]) ∧ Listed w' w'.heap.size v1 z1 ∧ SeesI w' w'.heap.size v2 t1 ∧ t1.length ≤ 5 ∧ SeesI w' w'.heap.size v3 t2 ∧ t2.length ≤ 5 ∧ Below w.heap.size w w'
set_option maxHeartbeats 400000 in
/-- spec.DrawTwoRanked -/
theorem drawTwoRanked_calls (w : World) (bv : Value) (bs : List Int) (hb : SeesB w w.heap.size bv bs) (hl : bs.length ≤ 1048576) (hz : ∀ z ∈ bs, 0 ≤ z ∧ z ≤ 255) :
    Calls Try.prog 14 #[bv] w (DrawTwoRankedPost w) := by
  have hr := rd_new w bv bs hb hl hz
  obtain ⟨A, c, rfl, _⟩ := hb.form
  have hb0 := (Below.refl w.heap.size w).alloc (Nat.le_refl _) (.cells #[.slice A bs.length c, .int .i64 0] 41)
  go_enter Try.func14, Try.ntmps14
  go_wp2_with fail
  refine (aList_calls _ w.heap.size 0 hr (by omega)).mono ?_
  rintro e w1 ⟨v1, z1, p1, rfl, hown1, hl1, hwf1, hp1, hg1⟩
  rw [World.size_alloc] at hown1
  have hb1 := below_gone hb0 hg1.2 (Nat.le_refl _) (by simp)
  have hs1 := hg1.1.lt
  have Hwf1 := Lib.hid hwf1
  clear hwf1
  go_wp2_with fail
  refine (aTable_calls w1 w.heap.size p1 hg1.1 (by omega)).mono ?_
  rintro e w2 ⟨v2, z2, p2, rfl, hown2, hl2, hp2, hg2⟩
  have hb2 := below_gone hb1 hg2.2 (Nat.le_refl _) hb1.size
  have hs2 := hg2.1.lt
  go_wp2_with fail
  refine (aTable_calls w2 w.heap.size p2 hg2.1 (by omega)).mono ?_
  rintro e w3 ⟨v3, z3, p3, rfl, hown3, hl3, hp3, hg3⟩
  have hb3 := below_gone hb2 hg3.2 (Nat.le_refl _) hb2.size
  go_wp2_with fail
  go_ret3
  exact ⟨_, _, _, z1, z2, z3, rfl, ⟨SeesI.own (hg3.own (hg2.own hown1 (by omega)) (by omega)), hl1, Hwf1.out⟩, SeesI.own (hg3.own hown2 (by omega)), hl2, SeesI.own hown3, hl3, hb3⟩

end Go.Proofs.Ytpnlindmcomikaa
