/-
  The walk of the law FnExactSortedFloats: it returns true and writes nothing that was there.
-/
import Derived.Test.YtlibakmllogcdaaImplSortedF
import Derived.Test.YtlibakmllogcdaaSpecBelow
import Derived.Test.YtlibakmllogcdaaSpecBits
import Derived.Test.YtlibakmllogcdaaSameBits
namespace Go.Proofs.Ytlibakmllogcdaa
open Go.RowKit Go.Shelf Go.Sort

theorem belowF_quiet {w : World} {q n : Nat} (x y : Nat) (h : ltF x y = false) :
    Calls Try.prog 11 #[.float .f64 x, .float .f64 y] (w.drewN (q + n)) fun e w'' => e = .returned (.bool false) ∧ ∃ m, w'' = w.drewN (q + m) :=
  (specBelow_calls x y _).mono fun _ _ ⟨he, hm⟩ => ⟨by rw [he, h], n, hm.symm⟩

set_option maxHeartbeats 1000000 in
theorem fnExactSortedFloats_walk (w : World) (v0 : Value) (z0 : List Nat) (s0 : SeesF w w.heap.size v0 z0) (b0 : z0.length * 8 ≤ 140737488351232) :
    Calls Try.prog 5 #[v0] w fun e w' => e = .returned (.bool true) ∧ Below w.heap.size w w' := by
  obtain ⟨A, c, rfl, _⟩ := s0.form
  go_enter Try.func5, Try.ntmps5
  go_wp2_with fail
  refine (implSortedF_calls w _ z0 s0 (by omega)).mono ?_
  rintro e w1 ⟨x, ys, rfl, hp, hri, hx, hb1⟩
  have hs1 := hb1.size
  have hyl : ys.length ≤ 17592186043904 := by have := hp.length_eq; omega
  have hz : (ys.length + 1) * 8 ≤ 140737488355328 := by have := hp.length_eq; omega
  have Heq := Lib.hid (upw_of_perm (hp.map bitF))
  have Hri := Lib.hid hri
  have Sx := Lib.hid (SeesF.own hx)
  obtain ⟨A1, c1, rfl, _, hcs⟩ := Sx.out.form
  clear hp hri hx
  go_wp2_with fail
  go_loopw [4] (fun i wr => ∃ (k q : Nat), i = .int .i64 ((k : Int) + 1) ∧ k ≤ ys.length ∧ wr = w1.drewN q) (fun i _ => ys.length + 1 - (intOf i).toNat)
  case atStart => exact ⟨0, 0, rfl, Nat.zero_le _, rfl⟩
  case round =>
    obtain ⟨k, q, rfl, hk, rfl⟩ := hrel
    by_cases hlt : k + 1 < ys.length
    · obtain ⟨b, off, rfl, hb, hc⟩ := hcs (by omega)
      have e1 := hc (k + 1) hlt
      have e2 := hc k (by omega)
      have hq := Lib.hid (Hri.out k (k + 1) (by omega) hlt)
      have g1 : (k : Int) + 1 < (ys.length : Int) := by omega
      clear hc hcs
      generalize ys[k + 1]?.getD 0 = x1 at e1 hq
      generalize ys[k]?.getD 0 = x0 at e2 hq
      go_wp2_with fail
      go_quiet ((go_at_call 11; exact belowF_quiet _ _ hq.out))
      go_wp2_with fail
      go_roundw
      case rel => exact ⟨k + 1, _, by go_num, by omega, rfl⟩
      case measure => simp [intOf]; omega
    · have g1 : ¬ (k : Int) + 1 < (ys.length : Int) := by omega
      have Sx2 := Lib.hid (Sx.out.drewN q)
      have hb2 := below_drewN hb1 q
      have hs2 : w.heap.size ≤ (w1.drewN q).heap.size := hs1
      have hs3 : w1.heap.size ≤ (w1.drewN q).heap.size := Nat.le_refl _
      clear hcs hb1 hs1
      generalize w1.drewN q = W at Sx2 hb2 hs2 hs3 ⊢
      have hc1 := Lib.hid (specBits_calls W _ _ ys Sx2.out hs3 hz)
      have S0 := Lib.hid s0
      clear s0 Sx hs3
      go_wp2_with fail
      refine hc1.out.mono ?_
      rintro e w2 ⟨v1, rfl, hr1, hb3⟩
      have hb4 := hb2.trans (hb3.mono hs2)
      have hc2 := Lib.hid (specBits_calls w2 w.heap.size _ z0 (S0.out.below hb4) hb4.size (by omega))
      have U1 := Lib.hid (SeesU.own hr1)
      clear hc1 hr1
      go_wp2_with fail
      refine hc2.out.mono ?_
      rintro e w3 ⟨v2, rfl, hr2, hb5⟩
      have U2 := Lib.hid (SeesU.own hr2)
      have U3 := Lib.hid (U1.out.below hb5)
      have hb6 := hb4.trans (hb5.mono hb4.size)
      have hul : (upw (z0.map bitF)).length ≤ 1000000000000000000 := by rw [upw_length, List.length_map]; omega
      rw [Heq.out] at U3
      have hsm := Lib.hid (sameBits_yes w3 _ _ v1 v2 _ U3.out U2.out hul)
      clear hc2 hr2 U1 U2 U3 Heq hb5
      go_wp2_with fail
      refine hsm.out.mono ?_
      rintro e w4 ⟨rfl, q2, rfl⟩
      go_wp2
      go_ret
      exact ⟨rfl, below_drewN hb6 q2⟩

end Go.Proofs.Ytlibakmllogcdaa
