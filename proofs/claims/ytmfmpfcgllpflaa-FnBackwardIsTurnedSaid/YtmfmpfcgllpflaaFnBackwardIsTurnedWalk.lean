/-
  The walk of the law FnBackwardIsTurned: it returns true and writes nothing that was there.
-/
import Derived.Test.YtmfmpfcgllpflaaWalkBackward
import Derived.Test.YtmfmpfcgllpflaaWalkAll
import Derived.Test.YtmfmpfcgllpflaaDrawList
import Derived.Test.YtmfmpfcgllpflaaSeven
namespace Go.Proofs.Ytmfmpfcgllpflaa
open Go.RowKit Go.Shelf

theorem take_all {α : Type} (l : List α) (n : Nat) (h : l.length = n) : l.take (n : Int).toNat = l := by
  rw [Int.toNat_natCast, ← h, List.take_length]

set_option maxHeartbeats 1000000 in
theorem fnBackwardIsTurned_walk (w : World) (v0 : Value) (z0 : List Int) (s0 : SeesB w w.heap.size v0 z0) (b0 : z0.length * 1 ≤ 140737488351232) (f0 : ∀ z ∈ z0, 0 ≤ z ∧ z ≤ 255) :
    Calls Try.prog 6 #[v0] w fun e w' => e = .returned (.bool true) ∧ Below w.heap.size w w' := by
  obtain ⟨A, c, hv, _⟩ := s0.form
  by_cases hlong : 1048576 < z0.length
  · rw [hv]
    clear s0 f0 hv
    go_enter Try.func6, Try.ntmps6
    go_wp2
    go_ret
    exact ⟨rfl, Below.refl _ _⟩
  · have hd := Lib.hid (drawList_calls w v0 z0 s0 (by omega) f0)
    subst hv
    clear s0 f0
    go_enter Try.func6, Try.ntmps6
    go_wp2_with fail
    refine hd.out.mono ?_
    rintro e w1 ⟨sv, zs, rfl, ⟨ss, hzl, hwf⟩, hb1⟩
    go_wp2_with fail
    refine (walkBackward_calls _ _ [7] 1 (sees_seven' w1) (by decide) seven_wf).mono ?_
    rintro e w2 ⟨x7, rfl, h7, hb2⟩
    have h7' : w2.ownsRow (w1.alloc (.cells #[.int .i64 7] 3)).heap.size 39 2 x7 1 [.int .i64 0, .int .i64 7] := h7
    obtain ⟨A7, c7, rfl, _⟩ := own_form h7'
    have hb2' := (below_seven w1).trans (hb2.mono (by simp))
    have ss2 := (ss.below hb2').more hb2'.size
    clear h7 h7'
    obtain ⟨As, cs, rfl, _⟩ := ss.form
    have Hwf := Lib.hid hwf
    clear hwf
    go_wp2_with fail
    refine (walkAll_calls w2 _ zs zs.length ss2 (by omega) Hwf.out).mono ?_
    rintro e w3 ⟨xa, rfl, ha, hb3⟩
    have ss3 := (ss2.below hb3).more hb3.size
    rw [take_all _ _ (allOf_length zs)] at ha
    go_wp2_with fail
    refine (walkBackward_calls w3 _ zs zs.length ss3 (by omega) Hwf.out).mono ?_
    rintro e w4 ⟨xb, rfl, hbb, hb4⟩
    rw [take_all _ _ (backOf_length zs)] at hbb
    have sa := (SeesP.own ha).below hb4
    have sb := SeesP.own hbb
    obtain ⟨Aa', ca', ea, _, hsa⟩ := sa.form
    obtain ⟨Ab', cb', eb, _, hsb⟩ := sb.form
    have hal := allOf_length zs
    have hbl := backOf_length zs
    rw [hal] at ea
    rw [hbl] at eb
    subst ea eb
    have hb14 : Below w.heap.size w w4 := ((hb1.trans (hb2'.mono hb1.size)).trans (hb3.mono (by have := hb1.size; have := hb2'.size; omega))).trans (hb4.mono (by have := hb1.size; have := hb2'.size; have := hb3.size; omega))
    clear ha hbb sa sb ss ss2 ss3
    go_wp2
    go_loopw [6] (fun i wr => ∃ k : Nat, k ≤ zs.length ∧ i = .int .i64 k ∧ ∃ q, wr = w4.drewN q) (fun i _ => zs.length - (intOf i).toNat)
    case atStart => exact ⟨0, Nat.zero_le _, rfl, 0, rfl⟩
    case round =>
      obtain ⟨k, hk, rfl, q, rfl⟩ := hrel
      by_cases hlt : k < zs.length
      · obtain ⟨b1, o1, rfl, _, hx1⟩ := hsa (by omega)
        obtain ⟨b2, o2, rfl, _, hx2⟩ := hsb (by omega)
        obtain ⟨e1, e2⟩ := hx1 k (by omega)
        obtain ⟨e3, e4⟩ := hx2 (zs.length - 1 - k) (by omega)
        have eb : (backOf zs)[zs.length - 1 - k]'(by rw [hbl]; omega) = (allOf zs)[k]'(by rw [hal]; exact hlt) := by
          simp only [backOf, List.getElem_reverse, allOf_length]
          congr 1
          omega
        rw [eb] at e3 e4
        clear hx1 hx2 hsa hsb eb
        generalize (allOf zs)[k].1 = x at e1 e3
        generalize (allOf zs)[k].2 = y at e2 e4
        have hj : ((zs.length : Int) - 1 - (k : Int)) = ((zs.length - 1 - k : Nat) : Int) := by omega
        generalize hjd : zs.length - 1 - k = j at e3 e4 hj
        have hj1 : IntKind.i64.wrap ((zs.length : Int) - 1) = (zs.length : Int) - 1 := IntWalk.i64_in _ (by omega)
        have hj2 : IntKind.i64.wrap ((zs.length : Int) - 1 - (k : Int)) = (j : Int) := (IntWalk.i64_in _ (by omega)).trans hj
        have hj3 : (j : Int) < (zs.length : Int) := by omega
        clear hj hjd
        go_wp2
        go_quiet (fail)
        clear hj1 hj2
        go_wp2
        go_roundw
        case rel => exact ⟨k + 1, by omega, by go_num, _, rfl⟩
        case measure => simp [intOf]; omega
      · clear hsa hsb
        go_wp2
        go_ret
        exact ⟨rfl, below_drewN hb14 _⟩

end Go.Proofs.Ytmfmpfcgllpflaa
