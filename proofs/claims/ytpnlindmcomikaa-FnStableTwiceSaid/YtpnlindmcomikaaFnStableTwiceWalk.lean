/-
  The walk of the law FnStableTwice: it returns true and writes nothing that was there.
-/
import Derived.Test.YtpnlindmcomikaaSame
import Derived.Test.YtpnlindmcomikaaSortedStable
import Derived.Test.YtpnlindmcomikaaSpecUpward
import Derived.Test.YtpnlindmcomikaaDrawRanked
namespace Go.Proofs.Ytpnlindmcomikaa
open Go.RowKit Go.Shelf

theorem stb_twice (t1 t2 zs : List Int) (k : Nat) (h0 : 0 < k) (hk : k < (stb t2 (stb t1 zs)).length) :
    Lex t2 (rk t1) ((stb t2 (stb t1 zs))[k - 1]?.getD 0) ((stb t2 (stb t1 zs))[k]?.getD 0) := by
  have h := List.pairwise_iff_getElem.1 (stb_lex t2 (rk t1) (stb t1 zs) (stb_ranks t1 zs)) (k - 1) k (by omega) hk (by omega)
  rw [List.getElem?_eq_getElem hk, List.getElem?_eq_getElem (by omega : k - 1 < _)]
  exact h

set_option maxRecDepth 100000 in
set_option maxHeartbeats 2000000 in
theorem fnStableTwice_walk (w : World) (v0 : Value) (z0 : List Int) (s0 : SeesB w w.heap.size v0 z0) (_ : z0.length * 1 ≤ 140737488351232) (f0 : ∀ z ∈ z0, 0 ≤ z ∧ z ≤ 255) :
    Calls Try.prog 5 #[v0] w fun e w' => e = .returned (.bool true) ∧ Below w.heap.size w w' := by
  obtain ⟨A, c, hv, _⟩ := s0.form
  by_cases hbig : (1048576 : Int) < (z0.length : Int)
  · subst hv
    clear s0 f0
    go_enter Try.func5, Try.ntmps5
    go_wp2
    go_ret
    exact ⟨rfl, Below.refl _ _⟩
  · have hd := Lib.hid (drawTwoRanked_calls w v0 z0 s0 (by omega) f0)
    subst hv
    clear s0 f0
    go_enter Try.func5, Try.ntmps5
    go_wp2_with fail
    refine hd.out.mono ?_
    rintro e w1 ⟨v1, v2, v3, z1, t1, t2, rfl, ⟨s1, l1, _⟩, st1, hl1, st2, hl2, hB1⟩
    obtain ⟨A1, c1, e1, _, _⟩ := s1.form
    subst e1
    have hc := Lib.hid (implSortedStable_calls w1 _ v2 z1 t1 s1 st1 (by omega) (by omega))
    go_wp2_with fail
    refine hc.out.mono ?_
    rintro e w2 ⟨a, ba, rfl, ha, _, hb2⟩
    have sa := SeesI.own ha
    have s2 := (s1.below hb2).more hb2.size
    have st12 := (st1.below hb2).more hb2.size
    have st22 := (st2.below hb2).more hb2.size
    have hB2 := hB1.trans (hb2.mono hB1.size)
    have hal := stb_length t1 z1
    clear ha s1 st1 st2 hB1 hb2 hc
    have hc := Lib.hid (implSortedStable_calls w2 a v3 (stb t1 z1) t2 sa st22 (by omega) (by omega))
    go_wp2_with fail
    refine hc.out.mono ?_
    rintro e w3 ⟨b, bb, rfl, hb, _, hb3⟩
    have sb := SeesI.own hb
    have s3 := (s2.below hb3).more hb3.size
    have st13 := (st12.below hb3).more hb3.size
    have st23 := (st22.below hb3).more hb3.size
    have hB3 := hB2.trans (hb3.mono hB2.size)
    have hbl : (stb t2 (stb t1 z1)).length = z1.length := (stb_length t2 _).trans hal
    have hup : upw (stb t2 (stb t1 z1)) = upw z1 := upw_of_perm ((stb_perm t2 _).trans (stb_perm t1 z1))
    have hlex := Lib.hid (stb_twice t1 t2 z1)
    have Hup := Lib.hid hup
    clear hb sa s2 st12 st22 hB2 hb3 hal hc hup
    generalize stb t2 (stb t1 z1) = bs at sb hbl hlex Hup
    obtain ⟨Ab, cb, eb, _, hbs⟩ := sb.form
    have Sb := Lib.hid sb
    rw [hbl] at eb hbs
    subst eb
    have Hbl := Lib.hid hbl
    clear sb hbl
    go_wp2_with fail
    go_loopw [10] (fun i wr => ∃ k : Nat, 0 < k ∧ k ≤ z1.length + 1 ∧ i = .int .i64 k ∧ ∃ q, wr = w3.drewN q) (fun i _ => z1.length + 1 - (intOf i).toNat)
    case atStart => exact ⟨1, by omega, by omega, rfl, 0, rfl⟩
    case round =>
      obtain ⟨k, hk0, hk, rfl, q, rfl⟩ := hrel
      by_cases hlt : k < z1.length
      · obtain ⟨bk, off, rfl, _, hx⟩ := hbs (by omega)
        have e1 := hx k hlt
        have e2 := hx (k - 1) (by omega)
        have hL := hlex.out k hk0 (by rw [Hbl.out]; exact hlt)
        clear hx hbs
        generalize bs[k]?.getD 0 = u at e1 hL
        generalize bs[k - 1]?.getD 0 = u' at e2 hL
        unfold Lex at hL
        have hR2 := Lib.hid (fun n v => specRank_calls (w3.drewN n) _ v3 t2 v (st23.drewN n) (by omega))
        have hR1 := Lib.hid (fun n v => specRank_calls (w3.drewN n) _ v2 t1 v (st13.drewN n) (by omega))
        generalize rk t2 = r2 at hR2 hL
        generalize rk t1 = r1 at hR1 hL
        have k1 : (k : Int) < (z1.length : Int) := by omega
        have d0 : decide (r2 u < r2 u') = false := decide_eq_false (by omega)
        have d0' : decide (r2 u' > r2 u) = false := decide_eq_false (by omega)
        rcases hL with hL | ⟨hL, hL2⟩
        · have d2 : (r2 u' == r2 u) = false := by rw [beq_eq_false_iff_ne]; omega
          clear hL
          go_wp2_with (go_at_call 12; refine (hR2.out _ _).mono ?_; rintro e w' ⟨rfl, rfl⟩)
          go_quiet ((go_at_call 12; exact calls_quiet1 (hR1.out _ _)))
          go_wp2
          go_roundw
          case rel => exact ⟨k + 1, by omega, by omega, by go_num, _, rfl⟩
          case measure => simp [intOf]; omega
        · have d2 : (r2 u' == r2 u) = true := by rw [beq_iff_eq]; exact hL
          have d1 : decide (r1 u < r1 u') = false := decide_eq_false (by omega)
          have d1' : decide (r1 u' > r1 u) = false := decide_eq_false (by omega)
          clear hL hL2
          go_wp2_with (go_at_call 12; refine (hR2.out _ _).mono ?_; rintro e w' ⟨rfl, rfl⟩)
          go_quiet ((go_at_call 12; exact calls_quiet1 (hR1.out _ _)))
          go_wp2
          go_roundw
          case rel => exact ⟨k + 1, by omega, by omega, by go_num, _, rfl⟩
          case measure => simp [intOf]; omega
      · clear hbs
        have hbz : bs.length ≤ 47 := by rw [Hbl.out]; exact l1
        have sb3 : SeesI (w3.drewN q) w3.heap.size (.slice Ab z1.length cb) bs := Sb.out.drewN q
        have hu1 := Lib.hid (specUpward_calls (w3.drewN q) w3.heap.size _ bs sb3 (Nat.le_refl _) (by omega))
        go_wp2_with fail
        refine hu1.out.mono ?_
        rintro e w4 ⟨y1, rfl, hy1, hb4⟩
        rw [Hup.out] at hy1
        have hs4 := hb4.size
        have s4 := (s3.drewN q).below hb4
        go_wp2_with fail
        refine (specUpward_calls w4 w3.heap.size _ z1 s4 hs4 (by omega)).mono ?_
        rintro e w5 ⟨y2, rfl, hy2, hb5⟩
        have sy1 := (SeesI.own hy1).below hb5
        have sy2 := SeesI.own hy2
        have hl0 : (upw z1).length ≤ 1000000000000000000 := by rw [upw_length]; omega
        have hB5 := ((below_drewN hB3 q).trans (hb4.mono hB3.size)).trans (hb5.mono (Nat.le_trans hB3.size hs4))
        clear hy1 hy2
        generalize upw z1 = us at sy1 sy2 hl0
        go_wp2_with fail
        refine (same_yes w5 _ _ y1 y2 us sy1 sy2 hl0).mono ?_
        rintro e w6 ⟨rfl, q2, rfl⟩
        go_wp2
        go_ret
        exact ⟨by simp, below_drewN hB5 q2⟩

end Go.Proofs.Ytpnlindmcomikaa
