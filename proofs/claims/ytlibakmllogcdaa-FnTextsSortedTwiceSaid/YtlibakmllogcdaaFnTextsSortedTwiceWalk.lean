/-
  The walk of the law FnTextsSortedTwice: it returns true and writes nothing that was there.
-/
import Derived.Test.YtlibakmllogcdaaSameT
import Derived.Test.YtlibakmllogcdaaImplSortedT
import Derived.Test.YtlibakmllogcdaaDrawTexts
import Derived.Sort.Walk0
namespace Go.Proofs.Ytlibakmllogcdaa
open Go.RowKit Go.Shelf Go.Sort

theorem not_less_before {us : List (List UInt8)} (h : us.Pairwise (· ≤ ·)) {k : Nat} (h1 : 0 < k) (hk : k < us.length) : Op.bytesLess (us[k]?.getD []) (us[k - 1]?.getD []) = false := by
  rw [bytesLess_eq, decide_eq_false_iff_not, List.not_lt, List.getElem?_eq_getElem hk, List.getElem?_eq_getElem (by omega)]
  exact List.pairwise_iff_getElem.1 h (k - 1) k (by omega) hk (by omega)

set_option maxHeartbeats 1000000 in
theorem fnTextsSortedTwice_walk (w : World) (v0 : Value) (z0 : List Int) (s0 : SeesB w w.heap.size v0 z0) (_ : z0.length * 1 ≤ 140737488351232) (f0 : ∀ z ∈ z0, 0 ≤ z ∧ z ≤ 255) :
    Calls Try.prog 4 #[v0] w fun e w' => e = .returned (.bool true) ∧ Below w.heap.size w w' := by
  obtain ⟨A, c, hv, _⟩ := s0.form
  by_cases hbig : (1048576 : Int) < (z0.length : Int)
  · subst hv
    clear s0 f0
    go_enter Try.func4, Try.ntmps4
    go_wp2
    go_ret
    exact ⟨rfl, Below.refl _ _⟩
  · have hd := Lib.hid (drawTexts_calls w v0 z0 s0 (by omega) f0)
    subst hv
    clear s0 f0
    go_enter Try.func4, Try.ntmps4
    go_wp2_with fail
    refine hd.out.mono ?_
    rintro e w1 ⟨v1, z1, rfl, s1, l1, _, hb1⟩
    go_wp2_with fail
    refine (implSortedT_calls w1 v1 z1 s1 (by omega)).mono ?_
    rintro e w2 ⟨a, rfl, ha, hb2⟩
    obtain ⟨A1, c1, rfl, _⟩ := s1.form
    have hB2 := hb1.trans (hb2.mono hb1.size)
    have lu : (upwT z1).length = z1.length := upwT_length z1
    have hup := Lib.hid (upwT_rising z1)
    have hself : upwT (upwT z1) = upwT z1 := upwT_of_perm (upwT_perm z1)
    have Hself := Lib.hid hself
    clear hself s1 hb1 hb2
    generalize upwT z1 = us at ha lu hup Hself
    have sa := SeesT.own ha
    obtain ⟨A2, c2, rfl, _, hx⟩ := sa.form
    clear ha
    rw [← lu] at l1
    have hel : ((us.length : Int) == (z1.length : Int)) = true := by rw [lu]; simp
    clear lu
    go_wp2_with fail
    go_loopw [5] (fun i wr => ∃ k q : Nat, 1 ≤ k ∧ k ≤ max us.length 1 ∧ i = .int .i64 k ∧ wr = w2.drewN q) (fun i _ => us.length - (intOf i).toNat)
    case atStart => exact ⟨1, 0, Nat.le_refl _, by omega, rfl, rfl⟩
    case round =>
      obtain ⟨k, q, hk1, hk, rfl, rfl⟩ := hrel
      by_cases hlt : k < us.length
      · obtain ⟨b, off, rfl, _, hc⟩ := hx (by omega)
        have e1 := hc k hlt
        have e2 := hc (k - 1) (by omega)
        have hno := not_less_before hup.out hk1 hlt
        clear hc hx hel
        generalize us[k]?.getD [] = x at e1 hno
        generalize us[k - 1]?.getD [] = y at e2 hno
        obtain ⟨k', rfl⟩ : ∃ k', k = k' + 1 := ⟨k - 1, by omega⟩
        rw [Nat.add_sub_cancel] at e2
        have e3 : ((k' + 1 : Nat) : Int) - 1 = (k' : Int) := by omega
        go_wp2
        go_quiet (fail)
        go_wp2
        go_roundw
        case rel => exact ⟨k' + 2, _, by omega, by omega, by go_num, rfl⟩
        case measure => simp [intOf]; omega
      · clear hx
        have hsa := sa.drewN q
        have hBq := below_drewN hB2 q
        have hs3 : w2.heap.size ≤ (w2.drewN q).heap.size := Nat.le_refl _
        generalize w2.drewN q = w3 at hsa hBq hs3 ⊢
        go_wp2_with fail
        refine (implSortedT_calls w3 _ us (hsa.more hs3) (by omega)).mono ?_
        rintro e w4 ⟨d, rfl, hd, hb4⟩
        rw [Hself.out] at hd
        have sd := SeesT.own hd
        have hB4 := hBq.trans (hb4.mono hBq.size)
        go_wp2_with fail
        refine (sameT_yes w4 _ _ d _ us sd (hsa.below (hb4.mono hs3)) (by omega)).mono ?_
        rintro e w5 ⟨rfl, q5, rfl⟩
        go_wp2
        go_ret
        exact ⟨rfl, below_drewN hB4 q5⟩

end Go.Proofs.Ytlibakmllogcdaa
