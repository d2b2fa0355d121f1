/-
  The contracts of spec.someKeys and of the draws of pairs. No statement is proved here.
-/
import Derived.Test.YtfagmnjhpipndaaDrawLists
import Derived.Test.YtfagmnjhpipndaaMapPost
namespace Go.Proofs.Ytfagmnjhpipndaa
open Go.RowKit Go.Shelf Go.Maps

def PairsPost (R p k : Nat) (w : World) (e : Ending) (w' : World) : Prop :=
  ∃ (v : Value) (ps : List (Int × Int)) (p' : Nat), e = .returned v ∧ w'.ownsRow w.heap.size 32 2 v ps.length (pcells ps) ∧ ps.length ≤ 24 ∧ Fits ps ∧ p' ≤ p + k ∧ Gone R p' w w'

def keySizes : List Int := [3, 4, 2, 6, 1, 0, 9, 24]
theorem keySizes_le : ∀ x ∈ keySizes, 0 ≤ x ∧ x ≤ 24 := by decide

theorem gone_append {R p base sz n : Nat} {a w w' : World} {e : TypeId} {v : Value} {xs : List Value} {o : Obj} (h : Gone R p a w) (hr : (w.alloc o).ownsRow base e sz v n xs) (hg : (w.alloc o).grownBy w' v.ownBlock) (ha : R < a.heap.size) (hb : base = a.heap.size) : Gone R p a w' := by
  subst hb
  have h1 := h.alloc o
  have hlow : ∀ g, v.ownBlock = some g → a.heap.size ≤ g := fun g e => (hr.lt g e).1
  refine ⟨h1.1.kept hg (fun g e => by have := hlow g e; omega), ?_⟩
  have h2 := h1.2
  exact ⟨hg.os.trans h2.os, hg.tape.trans h2.tape, hg.output.trans h2.output, Nat.le_trans h2.size hg.size, fun i hi hne => (hg.block i (Nat.lt_of_lt_of_le hi h2.size) (fun e => by have := hlow i e.symm; omega)).trans (h2.block i hi hne)⟩

set_option maxRecDepth 100000 in
set_option maxHeartbeats 1000000 in
/-- spec.someKeys -/
theorem someKeys_calls (w : World) (R p : Nat) (h : RdAt w R p) (hp : p ≤ 999990000) :
    Calls Try.prog 35 #[.pointer (some ⟨R, 0, none⟩)] w (PairsPost R p 200 w) := by
  obtain ⟨i0, hi, hz0, hz1, hz2⟩ := info_parts Try.infoPair
  have hlt := h.lt
  have hown0 := own_empty w w.heap.size 2 32 (Nat.le_refl _)
  go_enter Try.func35, Try.ntmps35
  go_wp2_with fail
  have hl := own_lit (w.alloc (.cells #[] 32)) (R + 1) keySizes (by simp; omega) (by decide)
  refine (one_calls _ R p _ keySizes ((h.alloc _).alloc _) (by omega) (by simpa [keySizes] using hl) (by decide) (by decide)).mono ?_
  rintro e w1 ⟨N, rfl, hN, hg⟩
  obtain ⟨hN0, hN1⟩ := keySizes_le N hN
  obtain ⟨m, rfl⟩ := Int.eq_ofNat_of_zero_le hN0
  have hown1 := hg.own (hown0.alloc _) (by omega)
  have hg1 : Gone R (p + 1) w w1 := ⟨hg.1, grown_trans (grown_alloc (World.grownBy_alloc w _ _) _) hg.2⟩
  clear hl hown0 hN hg hN0
  go_wp2_with fail
  go_loopw [3, 4] (fun v i wr => ∃ (n p' : Nat) (ps : List (Int × Int)), n ≤ m ∧ i = .int .i64 n ∧ ps.length = m - n ∧ wr.ownsRow w.heap.size 32 2 v ps.length (pcells ps) ∧ Fits ps ∧ p' ≤ p + 1 + 6 * (m - n) ∧ Gone R p' w wr) (fun _ i _ => (intOf i).toNat)
  case atStart => exact ⟨m, p + 1, [], Nat.le_refl _, rfl, by simp, hown1, (fun _ hh => by cases hh), by omega, hg1⟩
  case round =>
    obtain ⟨n, p', ps, hn, rfl, hzl, hrow, hwf, hpp, hgr⟩ := hrel
    have Hzl := Lib.hid hzl
    have hzl' : ps.length ≤ 24 := by omega
    have Hwf := Lib.hid hwf
    clear hown1 hg1 hzl hwf
    obtain ⟨A', c', rfl, _⟩ := own_form hrow
    have hws := hgr.2.size
    by_cases hn0 : 0 < n
    · go_wp2_with fail
      refine (pick_calls wr R p' _ hgr.1 (by omega) (by omega)).mono ?_
      rintro e w2 ⟨x, rfl, hx0, hx1, hg2⟩
      have hxw : (Lit.int .i64 x).wf = true := wf_small (by omega) (by omega)
      go_wp2_with fail
      refine (pick_calls w2 R (p' + 1) _ hg2.1 (by omega) (by omega)).mono ?_
      rintro e w3 ⟨z, rfl, hz0', hz1', hg3⟩
      by_cases hz : z = 0
      · subst hz
        go_wp2_with fail
        refine (aNumber_calls w3 R (p' + 1 + 1) hg3.1 (by omega)).mono ?_
        rintro e w4 ⟨x4, q4, rfl, hx4, hq4, hg4⟩
        have hgg := (hgr.trans hg2).trans (hg3.trans hg4)
        go_wp2_with fail
        refine (aNumber_calls w4 R q4 hgg.1 (by omega)).mono ?_
        rintro e w5 ⟨y, q5, rfl, hyw, hq5, hg5⟩
        have hg05 := (hgg).trans hg5
        have hrow5 := Gone.own ⟨hg05.1, grown_trans hg2.2 (grown_trans hg3.2 (grown_trans hg4.2 hg5.2))⟩ hrow (by omega)
        have hs5 := hg05.2.size
        have hpc := Lib.hid (pcells_append ps [(x4, y)])
        go_wp2_with (at_builtin; refine wpList_append_own _ rfl _ _ 23 rfl w.heap.size 32 i0 (.agg #[.int .i64 0, .int .i64 0]) 2 16 Try.underlying23 hi hz0 hz1 hz2 rfl (by decide) _ _ _ rfl (hrow5.alloc _) ⟨w5.heap.size, 0, none⟩ 1 1 [.int .i64 x4, .int .i64 y] rfl rfl (pair_new _ _ _ _) (by simp [Value.oneCell']) (by unfold maxLen; omega) (by omega) (by simp; omega) ?_; intro v' w6 hown' hgrow _)
        have hg6 : Gone R q5 w w6 := gone_append hg05 (hrow5.alloc (.cells #[.int .i64 x4, .int .i64 y] 32)) hgrow hlt rfl
        go_roundw
        case rel =>
          exact ⟨n - 1, q5, ps ++ [(x4, y)], by omega, by rw [show ((n - 1 : Nat) : Int) = (n : Int) - 1 by omega], by rw [List.length_append, Hzl.out]; simp; omega, by rw [List.length_append, hpc.out]; exact hown', Hwf.out.append (fun z hz => by rw [List.mem_singleton.1 hz]; exact ⟨hx4, hyw⟩), by omega, hg6⟩
        case measure => simp [intOf]; omega
      · have hgg := hgr.trans (hg2.trans hg3)
        go_wp2_with fail
        refine (aNumber_calls w3 R (p' + 1 + 1) hgg.1 (by omega)).mono ?_
        rintro e w5 ⟨y, q5, rfl, hyw, hq5, hg5⟩
        have hg05 := (hgg).trans hg5
        have hrow5 := Gone.own ⟨hg05.1, grown_trans hg2.2 (grown_trans hg3.2 hg5.2)⟩ hrow (by omega)
        have hs5 := hg05.2.size
        have hpc := Lib.hid (pcells_append ps [(x, y)])
        go_wp2_with (at_builtin; refine wpList_append_own _ rfl _ _ 23 rfl w.heap.size 32 i0 (.agg #[.int .i64 0, .int .i64 0]) 2 16 Try.underlying23 hi hz0 hz1 hz2 rfl (by decide) _ _ _ rfl (hrow5.alloc _) ⟨w5.heap.size, 0, none⟩ 1 1 [.int .i64 x, .int .i64 y] rfl rfl (pair_new _ _ _ _) (by simp [Value.oneCell']) (by unfold maxLen; omega) (by omega) (by simp; omega) ?_; intro v' w6 hown' hgrow _)
        have hg6 : Gone R q5 w w6 := gone_append hg05 (hrow5.alloc (.cells #[.int .i64 x, .int .i64 y] 32)) hgrow hlt rfl
        go_roundw
        case rel =>
          exact ⟨n - 1, q5, ps ++ [(x, y)], by omega, by rw [show ((n - 1 : Nat) : Int) = (n : Int) - 1 by omega], by rw [List.length_append, Hzl.out]; simp; omega, by rw [List.length_append, hpc.out]; exact hown', Hwf.out.append (fun z hz => by rw [List.mem_singleton.1 hz]; exact ⟨hxw, hyw⟩), by omega, hg6⟩
        case measure => simp [intOf]; omega
    · obtain rfl : n = 0 := by omega
      go_wp2_with fail
      go_ret
      exact ⟨_, ps, p', rfl, hrow, hzl', Hwf.out, by omega, hgr⟩

/-- Pairs that were drawn. -/
def PListed (w : World) (B : Nat) (v : Value) (ps : List (Int × Int)) : Prop := SeesP w B v ps ∧ ps.length ≤ 24 ∧ Fits ps
theorem PListed.below {w w' : World} {B : Nat} {v : Value} {ps : List (Int × Int)} (h : PListed w B v ps) (hb : Below B w w') : PListed w' B v ps := ⟨h.1.below hb, h.2⟩
theorem PListed.more {w : World} {B B' : Nat} {v : Value} {ps : List (Int × Int)} (h : PListed w B v ps) (hb : B ≤ B') : PListed w B' v ps := ⟨h.1.more hb, h.2⟩

/-- What spec.DrawPairs hands back. -/
def DrawPairsPost (w : World) (e : Ending) (w' : World) : Prop :=
  ∃ (v1 : Value) (z1 : List (Int × Int)), e = .returned v1 ∧ PListed w' w'.heap.size v1 z1 ∧ Below w.heap.size w w'
set_option maxHeartbeats 400000 in
/-- spec.DrawPairs -/
theorem drawPairs_calls (w : World) (bv : Value) (bs : List Int) (hb : SeesB w w.heap.size bv bs) (hl : bs.length ≤ 1048576) (hz : ∀ z ∈ bs, 0 ≤ z ∧ z ≤ 255) :
    Calls Try.prog 13 #[bv] w (DrawPairsPost w) := by
  have hr := rd_new w bv bs hb hl hz
  obtain ⟨A, c, rfl, _⟩ := hb.form
  have hb0 := (Below.refl w.heap.size w).alloc (Nat.le_refl _) (.cells #[.slice A bs.length c, .int .i64 0] 52)
  go_enter Try.func13, Try.ntmps13
  go_wp2_with fail
  refine (someKeys_calls _ w.heap.size 0 hr (by omega)).mono ?_
  rintro e w1 ⟨v1, z1, p1, rfl, hown1, hl1, hwf1, hp1, hg1⟩
  rw [World.size_alloc] at hown1
  have hb1 := below_gone hb0 hg1.2 (Nat.le_refl _) (by simp)
  have hs1 := hg1.1.lt
  have Hwf1 := Lib.hid hwf1
  clear hwf1
  go_wp2_with fail
  go_ret
  exact ⟨_, z1, rfl, ⟨SeesP.own hown1, hl1, Hwf1.out⟩, hb1⟩






end Go.Proofs.Ytfagmnjhpipndaa
