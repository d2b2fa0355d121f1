/-
  slices.insertionSortOrdered at float64. No statement is proved here.
-/
import Derived.Test.YtlibakmllogcdaaFloatKit
import Derived.Sort.WalkA
namespace Go.Proofs.Ytlibakmllogcdaa
open Go.RowKit Go.Shelf Go.Sort Go.Lib

set_option maxHeartbeats 4000000 in
set_option maxRecDepth 100000 in
theorem fsIns_calls (w0 w : World) (bk off cap n a b : Nat) (A B : Int) (d : Array Nat) (S : At w0 bk off n d w) (hA : A = a) (hB : B = b) (hab : a ≤ b) (hb : b ≤ n) (hn : n < 4611686018427387904) :
    Calls Try.prog 44 #[.slice (some ⟨bk, off, none⟩) n cap, .int .i64 A, .int .i64 B] w fun e w' => e = .returned (.tuple #[]) ∧ ∃ d', PermIn a b d d' ∧ SortedIn ltF a b d' ∧ At w0 bk off n d' w' := by
  subst hA hB
  have mixed : Try.prog.follows .mixedOrders = true := by kernel_rfl
  have hst := storeF
  have S0 := Lib.hid S
  clear S
  go_enter Try.func44, Try.ntmps44
  go_wp2
  go_loopw [6] (fun u wr => ∃ (i : Nat) (dk : Array Nat), a < i ∧ i ≤ b + 1 ∧ u = .int .i64 i ∧ Hid (insOuter ltF a b i dk = insOuter ltF a b (a + 1) d) ∧ Hid (At w0 bk off n dk wr)) (fun u _ => b + 1 - (intOf u).toNat)
  case atStart => exact ⟨a + 1, d, by omega, by omega, by first | rfl | go_num, Lib.hid rfl, S0⟩
  case round =>
    obtain ⟨i, dk, hai, hib, rfl, HO, S1⟩ := hrel
    by_cases hlt : i < b
    · have hltz : (i : Int) < (b : Int) := by omega
      go_wp2
      go_loopw [7] (fun u wr2 => ∃ (j : Nat) (dj : Array Nat), a ≤ j ∧ j ≤ i ∧ u = .int .i64 j ∧ Hid (insInner ltF a j dj = insInner ltF a i dk) ∧ Hid (At w0 bk off n dj wr2)) (fun u _ => (intOf u).toNat)
      case atStart => exact ⟨i, dk, by omega, Nat.le_refl _, rfl, Lib.hid rfl, S1⟩
      case round =>
        clear S1
        obtain ⟨j, dj, haj, hji, rfl, HI, S2⟩ := hrel
        by_cases hja : a < j
        · obtain ⟨p, rfl⟩ : ∃ p, j = p + 1 := ⟨j - 1, by omega⟩
          have g1 : decide ((a : Int) < (p : Int) + 1) = true := decide_eq_true (by omega)
          have g2 : decide (a < p + 1) = true := decide_eq_true hja
          have g3 : (a : Int) < (p : Int) + 1 := by omega
          have k1 : p < n := by omega
          have k2 : p + 1 < n := by omega
          have c1 := S2.out.cell (p + 1) (by omega)
          have c2 := S2.out.cell (p) (by omega)
          cases hlv : ltF dj[p + 1]! dj[p]! with
          | true =>
            have hl := Lib.hid (lessF_quiet wr _ _ hlv)
            have HL := Lib.hid hlv
            clear hlv
            generalize dj[p + 1]! = x at c1 hl
            generalize dj[p]! = y at c2 hl
            go_wp2_with fail
            go_quiet ((go_at_call 50; exact hl.out _))
            have S3 := Lib.hid (S2.out.drewN nq)
            clear c1 c2 hl S2
            generalize wr.drewN nq = w2 at S3 ⊢
            have HI2 := Lib.hid ((insInner_go ltF a (p + 1) dj hja HL.out).symm.trans HI.out)
            have S4 := Lib.hid (S3.out.swapped (p + 1) (p) (by omega) (by omega))
            have ca := S3.out.cell (p + 1) (by omega)
            have cb := S3.out.cell (p) (by omega)
            have fa := S3.out.frozen (p + 1) (by omega)
            have fb := S3.out.frozen (p) (by omega)
            obtain ⟨u, cc⟩ := S3.out.second (p + 1) (p) (by omega) (by omega) (.float .f64 dj[p]!)
            generalize dj[p + 1]! = x at ca S4
            generalize dj[p]! = y at cb S4 cc
            clear S3
            go_wp2_with fail
            go_big_region_o
            clear ca cb cc fa fb
            generalize ((w2.setCell ⟨bk, off + (p + 1), none⟩ (.float .f64 y)).setCell ⟨bk, off + (p), none⟩ (.float .f64 x)).drew = w3 at S4 ⊢
            go_wp2
            go_roundw
            case rel => exact ⟨p, swp dj (p + 1) p, by omega, by omega, by first | rfl | go_num, HI2, S4⟩
            case measure => simp [intOf]; try omega
          | false =>
            have hl := Lib.hid (lessF_quiet wr _ _ hlv)
            have HL := Lib.hid hlv
            clear hlv
            generalize dj[p + 1]! = x at c1 hl
            generalize dj[p]! = y at c2 hl
            go_wp2_with fail
            go_quiet ((go_at_call 50; exact hl.out _))
            have S3 := Lib.hid (S2.out.drewN nq)
            clear c1 c2 hl S2
            generalize wr.drewN nq = w2 at S3 ⊢
            have HO2 : Hid (insOuter ltF a b (i + 1) dj = insOuter ltF a b (a + 1) d) := Lib.hid (by rw [← HO.out, insOuter_go _ _ _ _ _ hlt, ← HI.out, insInner_stop _ _ _ _ (Or.inr HL.out)])
            go_wp2
            go_roundw
            case rel => exact ⟨i + 1, dj, by omega, by omega, by go_num, HO2, S3⟩
            case measure => simp [intOf]; omega
        · have g1 : decide ((a : Int) < (j : Int)) = false := decide_eq_false (by omega)
          have g2 : decide (a < j) = false := decide_eq_false hja
          have HO2 : Hid (insOuter ltF a b (i + 1) dj = insOuter ltF a b (a + 1) d) := Lib.hid (by rw [← HO.out, insOuter_go _ _ _ _ _ hlt, ← HI.out, insInner_stop _ _ _ _ (Or.inl (by omega))])
          go_wp2_with fail
          go_quiet (fail)
          have S3 := Lib.hid (S2.out.drewN nq)
          clear S2
          generalize wr.drewN nq = w2 at S3 ⊢
          go_wp2
          go_roundw
          case rel => exact ⟨i + 1, dj, by omega, by omega, by go_num, HO2, S3⟩
          case measure => simp [intOf]; omega
    · have hltz : ¬ (i : Int) < (b : Int) := by omega
      go_wp2
      go_end0
      have h := insertionSort_holds swo_ltF d a b hab (by rw [S0.out.size]; exact hb)
      have e : insertionSort ltF d a b = dk := by unfold insertionSort; rw [← HO.out, insOuter_stop _ _ _ _ _ hlt]
      rw [e] at h
      exact ⟨rfl, dk, h.1, h.2, S1.out⟩

end Go.Proofs.Ytlibakmllogcdaa
