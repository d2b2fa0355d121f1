/-
  The walk of the law FnDrainIsAll: it returns true and writes nothing that was there.
-/
import Derived.Test.YtfagmnjhpipndaaSame
import Derived.Test.YtfagmnjhpipndaaSortedKeys
import Derived.Test.YtfagmnjhpipndaaDrainKeys
import Derived.Test.YtfagmnjhpipndaaDrawPairs
import Derived.Test.YtfagmnjhpipndaaSevenPairs
namespace Go.Proofs.Ytfagmnjhpipndaa
open Go.RowKit Go.Shelf Go.Maps

theorem keysU_seven : (keysU [((7 : Int), (1 : Int))]).length = 1 := by decide

set_option maxRecDepth 100000 in
set_option maxHeartbeats 1000000 in
theorem fnDrainIsAll_walk (w : World) (v0 : Value) (z0 : List Int) (s0 : SeesB w w.heap.size v0 z0) (_ : z0.length * 1 ≤ 140737488351232) (f0 : ∀ z ∈ z0, 0 ≤ z ∧ z ≤ 255) :
    Calls Try.prog 10 #[v0] w fun e w' => e = .returned (.bool true) ∧ Below w.heap.size w w' := by
  obtain ⟨A, c, hv, _⟩ := s0.form
  by_cases hbig : (1048576 : Int) < (z0.length : Int)
  · subst hv
    clear s0 f0
    go_enter Try.func10, Try.ntmps10
    go_wp2
    go_ret
    exact ⟨rfl, Below.refl _ _⟩
  · have hd := Lib.hid (drawPairs_calls w v0 z0 s0 (by omega) f0)
    subst hv
    clear s0 f0
    go_enter Try.func10, Try.ntmps10
    go_wp2_with fail
    refine hd.out.mono ?_
    rintro e w1 ⟨v1, z1, rfl, ⟨s1, l1, g1⟩, hb1⟩
    have hkl := keysU_le z1
    obtain ⟨A1, c1, e1, _, _⟩ := s1.form
    subst e1
    have hdk := Lib.hid (drainKeys_calls w1 _ z1 s1 g1 (by omega))
    go_wp2_with fail
    refine hdk.out.mono ?_
    rintro e w2 ⟨a, rfl, ha, hb2⟩
    have sa := SeesI.own ha
    have s2 := (s1.below hb2).more hb2.size
    have hB2 := hb1.trans (hb2.mono hb1.size)
    clear ha s1 hb1 hb2 hdk
    go_wp2_with fail
    refine (sortedKeys_calls w2 _ z1 s2 g1 (by omega)).mono ?_
    rintro e w3 ⟨b, rfl, hb, hb3⟩
    have sb := SeesI.own hb
    have sa3 := sa.below hb3
    have hB3 := hB2.trans (hb3.mono hB2.size)
    have hl : (keysU z1).length ≤ 100000 := by omega
    clear hb sa s2 hB2 hb3 hkl
    generalize keysU z1 = us at sa3 sb hl
    go_wp2_with fail
    refine (same_yes w3 _ _ a b us sa3 sb (by omega)).mono ?_
    rintro e w4 ⟨rfl, q, rfl⟩
    go_wp2_with fail
    refine (sortedKeys_calls _ _ [(7, 1)] (sees_pair7 _) fits_pair7 (by decide)).mono ?_
    rintro e w8 ⟨o, rfl, ho, hb8⟩
    rw [keysU_seven] at ho
    obtain ⟨Ao, co, rfl, _⟩ := own_form ho
    have hB7 := (below_drewN hB3 q).alloc hB3.size (.cells #[.int .i64 7, .int .i64 1] 32)
    clear ho
    go_wp2
    go_ret
    exact ⟨by simp, hB7.trans (hb8.mono hB7.size)⟩

end Go.Proofs.Ytfagmnjhpipndaa
