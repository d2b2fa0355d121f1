/-
  The walk of the law FnAllIsValues: it returns true and writes nothing that was there.
-/
import Derived.Test.YtmfmpfcgllpflaaWalkValues
import Derived.Test.YtmfmpfcgllpflaaWalkAll
import Derived.Test.YtmfmpfcgllpflaaDrawMost
import Derived.Test.YtmfmpfcgllpflaaSeven
namespace Go.Proofs.Ytmfmpfcgllpflaa
open Go.RowKit Go.Shelf

theorem allOf_take (zs : List Int) (k : Nat) : (allOf zs).take k = allOf (zs.take k) := by
  apply List.ext_getElem
  · simp [allOf]
  · intro i h1 h2
    simp [allOf]

set_option maxHeartbeats 1000000 in
theorem fnAllIsValues_walk (w : World) (v0 : Value) (z0 : List Int) (s0 : SeesB w w.heap.size v0 z0) (b0 : z0.length * 1 ≤ 140737488351232) (f0 : ∀ z ∈ z0, 0 ≤ z ∧ z ≤ 255) :
    Calls Try.prog 5 #[v0] w fun e w' => e = .returned (.bool true) ∧ Below w.heap.size w w' := by
  obtain ⟨A, c, hv, _⟩ := s0.form
  by_cases hlong : 1048576 < z0.length
  · rw [hv]
    clear s0 f0 hv
    go_enter Try.func5, Try.ntmps5
    go_wp2
    go_ret
    exact ⟨rfl, Below.refl _ _⟩
  · have hd := Lib.hid (drawMost_calls w v0 z0 s0 (by omega) f0)
    subst hv
    clear s0 f0
    go_enter Try.func5, Try.ntmps5
    go_wp2_with fail
    refine hd.out.mono ?_
    rintro e w1 ⟨sv, zs, m, rfl, ⟨ss, hzl, hwf⟩, hb1⟩
    go_wp2_with fail
    refine (walkAll_calls w1 sv zs m ss (by omega) hwf).mono ?_
    rintro e w2 ⟨xa, rfl, ha, hb2⟩
    have ss2 := (ss.below hb2).more hb2.size
    clear hwf
    rw [allOf_take] at ha
    go_wp2_with fail
    refine (walkValues_calls w2 sv zs m ss2 (by omega)).mono ?_
    rintro e w3 ⟨xb, rfl, hbb, hb3⟩
    have hla : (zs.take m.toNat).length ≤ 47 := by rw [List.length_take]; omega
    have sa := (SeesP.own ha).below hb3
    have sb := SeesI.own hbb
    clear ha hbb
    generalize zs.take m.toNat = us at sa sb hla
    have sa' := (sa.more hb3.size).below (below_seven w3)
    have sb' := sb.below (below_seven w3)
    obtain ⟨Aa, ca, ea, _⟩ := sa.form
    obtain ⟨Ab, cb, eb, _⟩ := sb.form
    subst ea eb
    have hal := allOf_length us
    rw [hal]
    clear sa sb
    go_wp2_with fail
    refine (walkAll_calls _ _ [7] 1 (sees_seven' w3) (by decide) seven_wf).mono ?_
    rintro e w4 ⟨x7, rfl, h7, hb4⟩
    have h7' : w4.ownsRow (w3.alloc (.cells #[.int .i64 7] 3)).heap.size 39 2 x7 1 [.int .i64 0, .int .i64 7] := h7
    obtain ⟨A7, c7, rfl, _⟩ := own_form h7'
    have hb4' := (below_seven w3).trans (hb4.mono (by simp))
    have sa4 := sa'.below (hb4.mono (by simp))
    have sb4 := sb'.below (hb4.mono (by simp))
    obtain ⟨Aa', ca', ea, _, hsa⟩ := sa4.form
    obtain ⟨Ab', cb', eb, _, hsb⟩ := sb4.form
    rw [hal] at ea
    cases ea
    cases eb
    have hb14 : Below w.heap.size w w4 := ((hb1.trans (hb2.mono hb1.size)).trans (hb3.mono (by have := hb1.size; have := hb2.size; omega))).trans (hb4'.mono (by have := hb1.size; have := hb2.size; have := hb3.size; omega))
    clear h7 h7' sa4 sb4 sa' sb'
    go_wp2
    go_loopw [7] (fun i wr => ∃ k : Nat, k ≤ us.length ∧ i = .int .i64 k ∧ ∃ q, wr = w4.drewN q) (fun i _ => us.length - (intOf i).toNat)
    case atStart => exact ⟨0, Nat.zero_le _, rfl, 0, rfl⟩
    case round =>
      obtain ⟨k, hk, rfl, q, rfl⟩ := hrel
      by_cases hlt : k < us.length
      · obtain ⟨b1, o1, rfl, _, hx1⟩ := hsa (by omega)
        obtain ⟨b2, o2, rfl, _, hx2⟩ := hsb (by omega)
        obtain ⟨e1, e2⟩ := hx1 k (by omega)
        have e3 := hx2 k hlt
        rw [allOf_get] at e1 e2
        rw [List.getElem?_eq_getElem hlt] at e3
        dsimp only [Option.getD_some] at e1 e2 e3
        clear hx1 hx2 hsa hsb
        generalize us[k] = x at e2 e3
        go_wp2
        go_quiet (fail)
        go_wp2
        go_roundw
        case rel => exact ⟨k + 1, by omega, by go_num, _, rfl⟩
        case measure => simp [intOf]; omega
      · clear hsa hsb
        go_wp2
        go_ret
        exact ⟨rfl, below_drewN hb14 _⟩

end Go.Proofs.Ytmfmpfcgllpflaa
