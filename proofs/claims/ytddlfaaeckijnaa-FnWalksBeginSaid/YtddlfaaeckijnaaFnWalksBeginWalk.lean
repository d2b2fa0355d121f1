/-
  The walk of the law FnWalksBegin: it returns true and writes nothing that was there.
-/
import Derived.Test.YtddlfaaeckijnaaSame
import Derived.Test.YtddlfaaeckijnaaWalkValues
import Derived.Test.YtddlfaaeckijnaaDrawLists
namespace Go.Proofs.Ytddlfaaeckijnaa
open Go.RowKit Go.Shelf

theorem begin_cut (zs : List Int) (a b : Nat) (h : a ≤ b) : (zs.take b).take (zs.take a).length = zs.take a := by
  rw [List.take_take, List.length_take]
  rcases Nat.le_total zs.length a with h1 | h1
  · rw [Nat.min_eq_right h1, List.take_of_length_le h1, List.take_of_length_le (by omega)]
  · rw [Nat.min_eq_left h1, Nat.min_eq_left h]

/-- [7] -/
theorem sees_seven (w : World) : SeesI (w.alloc (.cells #[.int .i64 7] 3)) (w.heap.size + 1) (.slice (some ⟨w.heap.size, 0, none⟩) 1 1) [7] := by
  have := SeesI.own (own_lit w 0 [7] (Nat.zero_le _) (by decide))
  rw [World.size_alloc] at this
  exact this

set_option maxHeartbeats 1000000 in
theorem fnWalksBegin_walk (w : World) (v0 : Value) (z0 : List Int) (s0 : SeesB w w.heap.size v0 z0) (b0 : z0.length * 1 ≤ 140737488351232) (f0 : ∀ z ∈ z0, 0 ≤ z ∧ z ≤ 255) :
    Calls Try.prog 7 #[v0] w fun e w' => e = .returned (.bool true) ∧ Below w.heap.size w w' := by
  obtain ⟨A, c, hv, _⟩ := s0.form
  by_cases hlong : 1048576 < z0.length
  · rw [hv]
    clear s0 f0 hv
    go_enter Try.func7, Try.ntmps7
    go_wp2
    go_ret
    exact ⟨rfl, Below.refl _ _⟩
  · have hd := Lib.hid (drawTwoMost_calls w v0 z0 s0 (by omega) f0)
    subst hv
    clear s0 f0
    go_enter Try.func7, Try.ntmps7
    go_wp2_with fail
    refine hd.out.mono ?_
    rintro e w1 ⟨sv, zs, m, n, rfl, ⟨ss, hzl, _⟩, hb1⟩
    go_wp2_with fail
    have s7 := sees_seven w1
    rw [show w1.heap.size + 1 = (w1.alloc (.cells #[.int .i64 7] 3)).heap.size by simp] at s7
    refine (walkValues_calls _ _ [7] 1 s7 (by decide)).mono ?_
    rintro e w2 ⟨x7, rfl, h7, hb2⟩
    have h7' : w2.ownsRow (w1.alloc (.cells #[.int .i64 7] 3)).heap.size 3 1 x7 1 [.int .i64 7] := h7
    obtain ⟨A7, c7, rfl, _⟩ := own_form h7'
    have hb2' := ((Below.refl w1.heap.size w1).alloc (Nat.le_refl _) (.cells #[.int .i64 7] 3)).trans (hb2.mono (by simp))
    have ss2 := (ss.below hb2').more hb2'.size
    clear h7 h7' s7
    by_cases hmn : n < m
    · have hmn' : n ≤ m := by omega
      go_wp2_with fail
      refine (walkValues_calls w2 sv zs n ss2 (by omega)).mono ?_
      rintro e w3 ⟨xa, rfl, ha, hb3⟩
      have ss3 := (ss2.below hb3).more hb3.size
      go_wp2_with fail
      refine (walkValues_calls w3 sv zs m ss3 (by omega)).mono ?_
      rintro e w4 ⟨xb, rfl, hbb, hb4⟩
      have sa := (SeesI.own ha).below hb4
      have sb := SeesI.own hbb
      have hcut := begin_cut zs n.toNat m.toNat (by omega)
      have hla : (zs.take n.toNat).length ≤ 47 := by rw [List.length_take]; omega
      have hll : (zs.take n.toNat).length ≤ (zs.take m.toNat).length := by rw [List.length_take, List.length_take]; omega
      have Hcut := Lib.hid hcut
      clear ha hbb hcut
      generalize zs.take n.toNat = us at sa hla hll Hcut
      generalize zs.take m.toNat = bs at sb hll Hcut
      obtain ⟨Aa, ca, rfl, _⟩ := sa.form
      obtain ⟨Ab, cb, rfl, hcb, _⟩ := sb.form
      have sbc := sb.cut us.length
      rw [Hcut.out, Nat.min_eq_right hll] at sbc
      have hlb : us.length ≤ cb := by omega
      go_wp2_with fail
      refine (same_yes w4 _ _ _ _ us sbc sa (by omega)).mono ?_
      rintro e w5 ⟨rfl, q, rfl⟩
      go_wp2
      go_ret
      exact ⟨rfl, below_drewN (((hb1.trans (hb2'.mono hb1.size)).trans (hb3.mono (by have := hb1.size; have := hb2'.size; omega))).trans (hb4.mono (by have := hb1.size; have := hb2'.size; have := hb3.size; omega))) _⟩
    · by_cases hnm : m < n
      · have hmn' : m ≤ n := by omega
        go_wp2_with fail
        refine (walkValues_calls w2 sv zs m ss2 (by omega)).mono ?_
        rintro e w3 ⟨xa, rfl, ha, hb3⟩
        have ss3 := (ss2.below hb3).more hb3.size
        go_wp2_with fail
        refine (walkValues_calls w3 sv zs n ss3 (by omega)).mono ?_
        rintro e w4 ⟨xb, rfl, hbb, hb4⟩
        have sa := (SeesI.own ha).below hb4
        have sb := SeesI.own hbb
        have hcut := begin_cut zs m.toNat n.toNat (by omega)
        have hla : (zs.take m.toNat).length ≤ 47 := by rw [List.length_take]; omega
        have hll : (zs.take m.toNat).length ≤ (zs.take n.toNat).length := by rw [List.length_take, List.length_take]; omega
        have Hcut := Lib.hid hcut
        clear ha hbb hcut
        generalize zs.take m.toNat = us at sa hla hll Hcut
        generalize zs.take n.toNat = bs at sb hll Hcut
        obtain ⟨Aa, ca, rfl, _⟩ := sa.form
        obtain ⟨Ab, cb, rfl, hcb, _⟩ := sb.form
        have sbc := sb.cut us.length
        rw [Hcut.out, Nat.min_eq_right hll] at sbc
        have hlb : us.length ≤ cb := by omega
        go_wp2_with fail
        refine (same_yes w4 _ _ _ _ us sbc sa (by omega)).mono ?_
        rintro e w5 ⟨rfl, q, rfl⟩
        go_wp2
        go_ret
        exact ⟨rfl, below_drewN (((hb1.trans (hb2'.mono hb1.size)).trans (hb3.mono (by have := hb1.size; have := hb2'.size; omega))).trans (hb4.mono (by have := hb1.size; have := hb2'.size; have := hb3.size; omega))) _⟩

      · obtain rfl : m = n := by omega
        clear hmn hnm
        go_wp2_with fail
        refine (walkValues_calls w2 sv zs m ss2 (by omega)).mono ?_
        rintro e w3 ⟨xa, rfl, ha, hb3⟩
        have ss3 := (ss2.below hb3).more hb3.size
        go_wp2_with fail
        refine (walkValues_calls w3 sv zs m ss3 (by omega)).mono ?_
        rintro e w4 ⟨xb, rfl, hbb, hb4⟩
        have sa := (SeesI.own ha).below hb4
        have sb := SeesI.own hbb
        have hcut := begin_cut zs m.toNat m.toNat (by omega)
        have hla : (zs.take m.toNat).length ≤ 47 := by rw [List.length_take]; omega
        have hll : (zs.take m.toNat).length ≤ (zs.take m.toNat).length := Nat.le_refl _
        have Hcut := Lib.hid hcut
        clear ha hbb hcut
        generalize zs.take m.toNat = us at sa sb hla hll Hcut
        obtain ⟨Aa, ca, rfl, _⟩ := sa.form
        obtain ⟨Ab, cb, rfl, hcb, _⟩ := sb.form
        have sbc := sb.cut us.length
        rw [Hcut.out, Nat.min_eq_right hll] at sbc
        have hlb : us.length ≤ cb := by omega
        go_wp2_with fail
        refine (same_yes w4 _ _ _ _ us sbc sa (by omega)).mono ?_
        rintro e w5 ⟨rfl, q, rfl⟩
        go_wp2
        go_ret
        exact ⟨rfl, below_drewN (((hb1.trans (hb2'.mono hb1.size)).trans (hb3.mono (by have := hb1.size; have := hb2'.size; omega))).trans (hb4.mono (by have := hb1.size; have := hb2'.size; have := hb3.size; omega))) _⟩

end Go.Proofs.Ytddlfaaeckijnaa
