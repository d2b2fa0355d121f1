/-
  The walk of the law FnStableIsSortedFunc: it returns true and writes nothing that was there.
-/
import Derived.Test.YtpnlindmcomikaaSame
import Derived.Test.YtpnlindmcomikaaSortedStable
import Derived.Test.YtpnlindmcomikaaImplSortedFunc
import Derived.Test.YtpnlindmcomikaaSeven
import Derived.Test.YtpnlindmcomikaaDrawRanked
namespace Go.Proofs.Ytpnlindmcomikaa
open Go.RowKit Go.Shelf

theorem rises_pairwise {tb ys : List Int} (h : Rises tb ys) : (ys.map (rk tb)).Pairwise (· ≤ ·) := by
  have key : ∀ (n i : Nat) (hi : i + n + 1 < ys.length), rk tb (ys[i]?.getD 0) ≤ rk tb (ys[i + n + 1]?.getD 0) := by
    intro n
    induction n with
    | zero => intro i hi; have := h (i + 1) (by omega) (by omega); simpa using this
    | succ n ih =>
      intro i hi
      have h1 := ih i (by omega)
      have h2 := h (i + (n + 1) + 1) (by omega) hi
      rw [show i + (n + 1) + 1 - 1 = i + n + 1 by omega] at h2
      omega
  rw [List.pairwise_iff_getElem]
  intro i j hi hj hij
  rw [List.length_map] at hi hj
  have := key (j - i - 1) i (by omega)
  rw [show i + (j - i - 1) + 1 = j by omega, List.getElem?_eq_getElem hi, List.getElem?_eq_getElem hj] at this
  simpa using this
theorem ranks_alike {tb ys zs : List Int} (hp : ys.Perm zs) (hr : Rises tb ys) (k : Nat) (hk : k < zs.length) : rk tb (ys[k]?.getD 0) = rk tb ((stb tb zs)[k]?.getD 0) := by
  have h1 : ys.map (rk tb) = (stb tb zs).map (rk tb) := up_unique ((hp.trans (stb_perm tb zs).symm).map _) (rises_pairwise hr) (List.pairwise_map.2 (stb_ranks tb zs))
  have hl1 := hp.length_eq
  have hl2 := stb_length tb zs
  have h2 := congrArg (fun l : List Int => l[k]?) h1
  simp only [List.getElem?_map] at h2
  rw [List.getElem?_eq_getElem (by omega : k < ys.length), List.getElem?_eq_getElem (by omega : k < (stb tb zs).length)] at h2 ⊢
  simpa using h2

set_option maxRecDepth 100000 in
set_option maxHeartbeats 2000000 in
theorem fnStableIsSortedFunc_walk (w : World) (v0 : Value) (z0 : List Int) (s0 : SeesB w w.heap.size v0 z0) (_ : z0.length * 1 ≤ 140737488351232) (f0 : ∀ z ∈ z0, 0 ≤ z ∧ z ≤ 255) :
    Calls Try.prog 3 #[v0] w fun e w' => e = .returned (.bool true) ∧ Below w.heap.size w w' := by
  obtain ⟨A, c, hv, _⟩ := s0.form
  by_cases hbig : (1048576 : Int) < (z0.length : Int)
  · subst hv
    clear s0 f0
    go_enter Try.func3, Try.ntmps3
    go_wp2
    go_ret
    exact ⟨rfl, Below.refl _ _⟩
  · have hd := Lib.hid (drawRanked_calls w v0 z0 s0 (by omega) f0)
    subst hv
    clear s0 f0
    go_enter Try.func3, Try.ntmps3
    go_wp2_with fail
    refine hd.out.mono ?_
    rintro e w1 ⟨v1, v2, z1, t1, rfl, ⟨s1, l1, _⟩, st1, hl1, hB1⟩
    obtain ⟨A1, c1, e1, _, _⟩ := s1.form
    subst e1
    go_wp2_with fail
    have hc := Lib.hid (implSortedFunc_calls _ _ v2 [7] t1 (sees_seven' w1) ((st1.below (below_seven w1)).more (by simp)) (by decide) (by omega))
    refine hc.out.mono ?_
    rintro e w2 ⟨o, bo, yo, rfl, hpo, _, ho, _, hb2⟩
    obtain rfl := List.perm_singleton.1 hpo
    have so := SeesI.own ho
    have hb2' := (below_seven w1).trans (hb2.mono (by simp))
    have s2 := (s1.below hb2').more hb2'.size
    have st2 := (st1.below hb2').more hb2'.size
    have hB2 := hB1.trans (hb2'.mono hB1.size)
    clear ho s1 st1 hB1 hb2 hb2' hc hpo
    have hc := Lib.hid (implSortedFunc_calls w2 _ v2 z1 t1 s2 st2 (by omega) (by omega))
    go_wp2_with fail
    refine hc.out.mono ?_
    rintro e w3 ⟨a, ba, ys, rfl, hp, hri, ha, _, hb3⟩
    have sa := SeesI.own ha
    have so3 := (so.below hb3).more hb3.size
    have s3 := (s2.below hb3).more hb3.size
    have st3 := (st2.below hb3).more hb3.size
    have hB3 := hB2.trans (hb3.mono hB2.size)
    have hyl := hp.length_eq
    have hrk := Lib.hid (ranks_alike hp hri)
    clear ha so s2 st2 hB2 hb3 hc hp hri
    have hc := Lib.hid (implSortedStable_calls w3 _ v2 z1 t1 s3 st3 (by omega) (by omega))
    go_wp2_with fail
    refine hc.out.mono ?_
    rintro e w4 ⟨b, bb, rfl, hb, _, hb4⟩
    have sb := SeesI.own hb
    have sa4 := (sa.below hb4).more hb4.size
    have so4 := (so3.below hb4).more hb4.size
    have st4 := (st3.below hb4).more hb4.size
    have hB4 := hB3.trans (hb4.mono hB3.size)
    have hbl : (stb t1 z1).length = z1.length := stb_length t1 z1
    clear hb sa so3 s3 st3 hB3 hb4 hc
    generalize stb t1 z1 = bs at sb hbl hrk
    have hb5 := below_seven w4
    obtain ⟨Aa, ca, ea, _, has⟩ := (sa4.below hb5).form
    obtain ⟨Ab, cb, eb, _, hbs⟩ := (sb.below hb5).form
    rw [hyl] at ea has
    rw [hbl] at eb hbs
    subst ea eb
    have hsame := Lib.hid (same_yes _ _ _ o _ [7] (so4.below (below_seven w4)) (sees_seven' w4) (by decide))
    have st5 := st4.below hb5
    have hB5 := hB4.trans (hb5.mono hB4.size)
    clear sa4 sb so4 st4 hyl hbl
    go_wp2_with fail
    refine hsame.out.mono ?_
    rintro e w5 ⟨rfl, q0, rfl⟩
    generalize w4.alloc (.cells #[.int .i64 7] 3) = W at has hbs st5 hB5 ⊢
    go_wp2_with fail
    go_loopw [11] (fun i wr => ∃ k : Nat, k ≤ z1.length ∧ i = .int .i64 k ∧ ∃ q, wr = W.drewN q) (fun i _ => z1.length - (intOf i).toNat)
    case atStart => exact ⟨0, Nat.zero_le _, rfl, q0, rfl⟩
    case round =>
      obtain ⟨k, hk, rfl, q, rfl⟩ := hrel
      by_cases hlt : k < z1.length
      · obtain ⟨b1, o1, rfl, _, hx1⟩ := has (by omega)
        obtain ⟨b2, o2, rfl, _, hx2⟩ := hbs (by omega)
        have e1 := hx1 k hlt
        have e2 := hx2 k hlt
        have hL := hrk.out k hlt
        clear hx1 hx2 has hbs
        generalize ys[k]?.getD 0 = u at e1 hL
        generalize bs[k]?.getD 0 = u' at e2 hL
        have hR := Lib.hid (fun n v => specRank_calls (W.drewN n) _ v2 t1 v (st5.drewN n) (by omega))
        generalize rk t1 = r1 at hR hL
        have d1 : (r1 u != r1 u') = false := by rw [bne_eq_false_iff_eq]; exact hL
        have Hl := Lib.hid hL
        clear hL
        go_wp2_with fail
        go_quiet ((go_at_call 12; exact calls_quiet1 (hR.out _ _)))
        go_wp2
        go_roundw
        case rel => exact ⟨k + 1, by omega, by go_num, _, rfl⟩
        case measure => simp [intOf]; omega
      · clear has hbs
        go_wp2
        go_ret
        exact ⟨rfl, below_drewN hB5 q⟩

end Go.Proofs.Ytpnlindmcomikaa
