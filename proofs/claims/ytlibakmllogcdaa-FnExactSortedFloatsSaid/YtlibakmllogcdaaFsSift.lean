/-
  slices.reverseRangeOrdered, siftDownOrdered, heapSortOrdered at float64. No statement is proved here.
-/
import Derived.Test.YtlibakmllogcdaaFloatKit
import Derived.Sort.LotB
namespace Go.Proofs.Ytlibakmllogcdaa
open Go.RowKit Go.Shelf Go.Sort Go.Lib

set_option maxHeartbeats 4000000 in
set_option maxRecDepth 100000 in
theorem fsRev_calls (w0 w : World) (bk off cap n a b : Nat) (A B : Int) (d : Array Nat) (S : At w0 bk off n d w) (hA : A = a) (hB : B = b) (hab : a < b) (hb : b ≤ n) (hn : n < 4611686018427387904) :
    Calls Try.prog 48 #[.slice (some ⟨bk, off, none⟩) n cap, .int .i64 A, .int .i64 B] w fun e w' => e = .returned (.tuple #[]) ∧ ∃ d', PermIn a b d d' ∧ At w0 bk off n d' w' := by
  subst hA hB
  have mixed : Try.prog.follows .mixedOrders = true := by kernel_rfl
  have hst := storeF
  have S0 := Lib.hid S
  clear S
  go_enter Try.func48, Try.ntmps48
  go_wp2
  go_loopw [6, 7] (fun u v wr => ∃ (i j : Nat) (dk : Array Nat), a ≤ i ∧ i ≤ b ∧ j < b ∧ u = .int .i64 i ∧ v = .int .i64 j ∧ Hid (PermIn a b d dk) ∧ Hid (At w0 bk off n dk wr)) (fun u v _ => (intOf v).toNat - (intOf u).toNat)
  case atStart => exact ⟨a, b - 1, d, by omega, by omega, by omega, rfl, by congr 1 <;> omega, Lib.hid (permIn_refl _ _ _), S0⟩
  case round =>
    clear S0
    obtain ⟨i, j, dk, hai, hib, hjb, rfl, rfl, HP, S1⟩ := hrel
    by_cases hlt : i < j
    · obtain ⟨p, rfl⟩ : ∃ p, j = p + 1 := ⟨j - 1, by omega⟩
      have g3 : (i : Int) < (p : Int) + 1 := by omega
      have k1 : i < n := by omega
      have k2 : p + 1 < n := by omega
      have HP2 := Lib.hid (permIn_trans _ _ _ _ _ HP.out (swp_permIn dk a b i (p + 1) (by omega) (by omega) (by omega) (by omega) (by rw [S1.out.size]; exact hb)))
      have S4 := Lib.hid (S1.out.swapped (i) (p + 1) (by omega) (by omega))
      have ca := S1.out.cell (i) (by omega)
      have cb := S1.out.cell (p + 1) (by omega)
      have fa := S1.out.frozen (i) (by omega)
      have fb := S1.out.frozen (p + 1) (by omega)
      obtain ⟨u, cc⟩ := S1.out.second (i) (p + 1) (by omega) (by omega) (.float .f64 dk[p + 1]!)
      generalize dk[i]! = x at ca S4
      generalize dk[p + 1]! = y at cb S4 cc
      clear S1
      go_wp2_with fail
      go_big_region_o
      clear ca cb cc fa fb
      generalize ((wr.setCell ⟨bk, off + (i), none⟩ (.float .f64 y)).setCell ⟨bk, off + (p + 1), none⟩ (.float .f64 x)).drew = w3 at S4 ⊢
      go_wp2
      go_roundw
      case rel => exact ⟨i + 1, p, _, by omega, by omega, by omega, by go_num, by first | rfl | go_num, HP2, S4⟩
      case measure => simp [intOf]; omega
    · have g3 : ¬ (i : Int) < (j : Int) := by omega
      go_wp2
      go_end0
      exact ⟨rfl, dk, HP.out, S1.out⟩

theorem siftDown_stop (hi F root : Nat) (d : Array Nat) (h : 2 * root + 1 ≥ hi) : siftDown ltF hi F root d = d := by rw [siftDown, dif_pos h]
theorem siftDown_first (hi F root : Nat) (d : Array Nat) (h : ¬ 2 * root + 1 ≥ hi) (hc : 2 * root + 1 + 1 < hi → ltF d[F + (2 * root + 1)]! d[F + (2 * root + 1) + 1]! = false) :
    (ltF d[F + root]! d[F + (2 * root + 1)]! = false → siftDown ltF hi F root d = d) ∧ (ltF d[F + root]! d[F + (2 * root + 1)]! = true → siftDown ltF hi F root d = siftDown ltF hi F (2 * root + 1) (swp d (F + root) (F + (2 * root + 1)))) := by
  have hg : (decide (2 * root + 1 + 1 < hi) && ltF d[F + (2 * root + 1)]! d[F + (2 * root + 1) + 1]!) = false := by
    by_cases h2 : 2 * root + 1 + 1 < hi
    · rw [hc h2]; simp
    · simp [h2]
  constructor
  · intro hl; rw [siftDown, dif_neg h, hg, if_neg (by simp), hl]; rfl
  · intro hl; rw [siftDown, dif_neg h, hg, if_neg (by simp), hl]; rfl
theorem siftDown_second (hi F root : Nat) (d : Array Nat) (h2 : 2 * root + 1 + 1 < hi) (hc : ltF d[F + (2 * root + 1)]! d[F + (2 * root + 1) + 1]! = true) :
    (ltF d[F + root]! d[F + (2 * root + 2)]! = false → siftDown ltF hi F root d = d) ∧ (ltF d[F + root]! d[F + (2 * root + 2)]! = true → siftDown ltF hi F root d = siftDown ltF hi F (2 * root + 2) (swp d (F + root) (F + (2 * root + 2)))) := by
  have hg : (decide (2 * root + 1 + 1 < hi) && ltF d[F + (2 * root + 1)]! d[F + (2 * root + 1) + 1]!) = true := by rw [hc]; simp [h2]
  constructor
  · intro hl; rw [siftDown, dif_neg (by omega), hg, if_pos rfl, hl]; rfl
  · intro hl; rw [siftDown, dif_neg (by omega), hg, if_pos rfl, hl, if_neg (by simp), dif_pos (by omega)]

set_option maxHeartbeats 4000000 in
set_option maxRecDepth 100000 in
theorem fsSift_calls (w0 w : World) (bk off cap n lo hi F : Nat) (A B C : Int) (d : Array Nat) (S : At w0 bk off n d w) (hA : A = lo) (hB : B = hi) (hC : C = F) (hlo : lo ≤ n) (hb : F + hi ≤ n) (hn : n < 1152921504606846976) :
    Calls Try.prog 59 #[.slice (some ⟨bk, off, none⟩) n cap, .int .i64 A, .int .i64 B, .int .i64 C] w fun e w' => e = .returned (.tuple #[]) ∧ At w0 bk off n (siftDown ltF hi F lo d) w' := by
  subst hA hB hC
  have mixed : Try.prog.follows .mixedOrders = true := by kernel_rfl
  have hst := storeF
  have S0 := Lib.hid S
  clear S
  go_enter Try.func59, Try.ntmps59
  go_wp2
  go_loopw [8] (fun u wr => ∃ (root : Nat) (dk : Array Nat), root ≤ n ∧ u = .int .i64 root ∧ Hid (siftDown ltF hi F root dk = siftDown ltF hi F lo d) ∧ Hid (At w0 bk off n dk wr)) (fun u _ => hi - (intOf u).toNat)
  case atStart => exact ⟨lo, d, hlo, rfl, Lib.hid rfl, S0⟩
  case round =>
    clear S0
    obtain ⟨root, dk, hrn, rfl, HI, S1⟩ := hrel
    by_cases h1 : 2 * root + 1 ≥ hi
    · have g1 : (hi : Int) ≤ 2 * (root : Int) + 1 := by omega
      have g2 : hi ≤ 2 * root + 1 := h1
      have HQ := Lib.hid ((siftDown_stop hi F root dk h1).symm.trans HI.out)
      go_wp2
      first | go_end0 | go_ret | refine bodyPost_ret (results_none rfl _ _ _) rfl ?_
      exact ⟨rfl, by rw [← HQ.out]; exact S1.out⟩
    · have g1 : ¬ (hi : Int) ≤ 2 * (root : Int) + 1 := by omega
      have kr : F + root < n := by omega
      have kc : F + (2 * root + 1) < n := by omega
      by_cases h2 : 2 * root + 1 + 1 < hi
      · have g2 : decide (2 * (root : Int) + 1 + 1 < (hi : Int)) = true := decide_eq_true (by omega)
        have g3 : decide (2 * root + 1 + 1 < hi) = true := decide_eq_true h2
        have kd : F + (2 * root + 1) + 1 < n := by omega
        have ke : F + (2 * root + 2) < n := by omega
        have c1 := S1.out.cell (F + (2 * root + 1)) (by omega)
        have c2 := S1.out.cell (F + (2 * root + 1) + 1) (by omega)
        cases hlv : ltF dk[F + (2 * root + 1)]! dk[F + (2 * root + 1) + 1]! with
        | true =>
          have hl := Lib.hid (lessF_quiet wr _ _ hlv)
          have HL := Lib.hid hlv
          clear hlv
          generalize dk[F + (2 * root + 1)]! = x at c1 hl
          generalize dk[F + (2 * root + 1) + 1]! = y at c2 hl
          go_wp2_with fail
          go_quiet ((go_at_call 50; exact hl.out _))
          have S2 := Lib.hid (S1.out.drewN nq)
          clear c1 c2 hl S1
          generalize wr.drewN nq = w2 at S2 ⊢
          have EQ := Lib.hid (siftDown_second hi F root dk h2 HL.out)
          clear HL
          go_wp2_with fail
          have c1 := S2.out.cell (F + root) (by omega)
          have c2 := S2.out.cell (F + (2 * root + 2)) (by omega)
          cases hlv : ltF dk[F + root]! dk[F + (2 * root + 2)]! with
          | true =>
            have hl := Lib.hid (lessF_quiet w2 _ _ hlv)
            have HL := Lib.hid hlv
            clear hlv
            generalize dk[F + root]! = x at c1 hl
            generalize dk[F + (2 * root + 2)]! = y at c2 hl
            go_wp2_with fail
            go_quiet ((go_at_call 50; exact hl.out _))
            have S3 := Lib.hid (S2.out.drewN nq)
            clear c1 c2 hl S2
            generalize w2.drewN nq = w3 at S3 ⊢
            have HQ := Lib.hid ((EQ.out.2 HL.out).symm.trans HI.out)
            have S4 := Lib.hid (S3.out.swapped (F + root) (F + (2 * root + 2)) (by omega) (by omega))
            have ca := S3.out.cell (F + root) (by omega)
            have cb := S3.out.cell (F + (2 * root + 2)) (by omega)
            have fa := S3.out.frozen (F + root) (by omega)
            have fb := S3.out.frozen (F + (2 * root + 2)) (by omega)
            obtain ⟨u, cc⟩ := S3.out.second (F + root) (F + (2 * root + 2)) (by omega) (by omega) (.float .f64 dk[F + (2 * root + 2)]!)
            generalize dk[F + root]! = x at ca S4
            generalize dk[F + (2 * root + 2)]! = y at cb S4 cc
            clear S3
            go_wp2_with fail
            go_big_region_o
            clear ca cb cc fa fb
            generalize ((w3.setCell ⟨bk, off + (F + root), none⟩ (.float .f64 y)).setCell ⟨bk, off + (F + (2 * root + 2)), none⟩ (.float .f64 x)).drew = w4 at S4 ⊢
            go_wp2
            go_roundw
            case rel => exact ⟨2 * root + 2, _, by omega, by first | rfl | go_num | (congr 1 <;> omega), HQ, S4⟩
            case measure => simp [intOf]; omega
          | false =>
            have hl := Lib.hid (lessF_quiet w2 _ _ hlv)
            have HL := Lib.hid hlv
            clear hlv
            generalize dk[F + root]! = x at c1 hl
            generalize dk[F + (2 * root + 2)]! = y at c2 hl
            go_wp2_with fail
            go_quiet ((go_at_call 50; exact hl.out _))
            have S3 := Lib.hid (S2.out.drewN nq)
            clear c1 c2 hl S2
            generalize w2.drewN nq = w3 at S3 ⊢
            have HQ := Lib.hid ((EQ.out.1 HL.out).symm.trans HI.out)
            go_wp2
            first | go_end0 | go_ret | refine bodyPost_ret (results_none rfl _ _ _) rfl ?_
            exact ⟨rfl, by rw [← HQ.out]; exact S3.out⟩
        | false =>
          have hl := Lib.hid (lessF_quiet wr _ _ hlv)
          have HL := Lib.hid hlv
          clear hlv
          generalize dk[F + (2 * root + 1)]! = x at c1 hl
          generalize dk[F + (2 * root + 1) + 1]! = y at c2 hl
          go_wp2_with fail
          go_quiet ((go_at_call 50; exact hl.out _))
          have S2 := Lib.hid (S1.out.drewN nq)
          clear c1 c2 hl S1
          generalize wr.drewN nq = w2 at S2 ⊢
          have EQ := Lib.hid (siftDown_first hi F root dk h1 (fun _ => HL.out))
          clear HL
          go_wp2_with fail
          have c1 := S2.out.cell (F + root) (by omega)
          have c2 := S2.out.cell (F + (2 * root + 1)) (by omega)
          cases hlv : ltF dk[F + root]! dk[F + (2 * root + 1)]! with
          | true =>
            have hl := Lib.hid (lessF_quiet w2 _ _ hlv)
            have HL := Lib.hid hlv
            clear hlv
            generalize dk[F + root]! = x at c1 hl
            generalize dk[F + (2 * root + 1)]! = y at c2 hl
            go_wp2_with fail
            go_quiet ((go_at_call 50; exact hl.out _))
            have S3 := Lib.hid (S2.out.drewN nq)
            clear c1 c2 hl S2
            generalize w2.drewN nq = w3 at S3 ⊢
            have HQ := Lib.hid ((EQ.out.2 HL.out).symm.trans HI.out)
            have S4 := Lib.hid (S3.out.swapped (F + root) (F + (2 * root + 1)) (by omega) (by omega))
            have ca := S3.out.cell (F + root) (by omega)
            have cb := S3.out.cell (F + (2 * root + 1)) (by omega)
            have fa := S3.out.frozen (F + root) (by omega)
            have fb := S3.out.frozen (F + (2 * root + 1)) (by omega)
            obtain ⟨u, cc⟩ := S3.out.second (F + root) (F + (2 * root + 1)) (by omega) (by omega) (.float .f64 dk[F + (2 * root + 1)]!)
            generalize dk[F + root]! = x at ca S4
            generalize dk[F + (2 * root + 1)]! = y at cb S4 cc
            clear S3
            go_wp2_with fail
            go_big_region_o
            clear ca cb cc fa fb
            generalize ((w3.setCell ⟨bk, off + (F + root), none⟩ (.float .f64 y)).setCell ⟨bk, off + (F + (2 * root + 1)), none⟩ (.float .f64 x)).drew = w4 at S4 ⊢
            go_wp2
            go_roundw
            case rel => exact ⟨2 * root + 1, _, by omega, by first | rfl | go_num | (congr 1 <;> omega), HQ, S4⟩
            case measure => simp [intOf]; omega
          | false =>
            have hl := Lib.hid (lessF_quiet w2 _ _ hlv)
            have HL := Lib.hid hlv
            clear hlv
            generalize dk[F + root]! = x at c1 hl
            generalize dk[F + (2 * root + 1)]! = y at c2 hl
            go_wp2_with fail
            go_quiet ((go_at_call 50; exact hl.out _))
            have S3 := Lib.hid (S2.out.drewN nq)
            clear c1 c2 hl S2
            generalize w2.drewN nq = w3 at S3 ⊢
            have HQ := Lib.hid ((EQ.out.1 HL.out).symm.trans HI.out)
            go_wp2
            first | go_end0 | go_ret | refine bodyPost_ret (results_none rfl _ _ _) rfl ?_
            exact ⟨rfl, by rw [← HQ.out]; exact S3.out⟩
      · have g2 : decide (2 * (root : Int) + 1 + 1 < (hi : Int)) = false := decide_eq_false (by omega)
        have g3 : decide (2 * root + 1 + 1 < hi) = false := decide_eq_false h2
        have EQ := Lib.hid (siftDown_first hi F root dk h1 (fun h => absurd h h2))
        go_wp2_with fail
        go_quiet (fail)
        have S2 := Lib.hid (S1.out.drewN nq)
        clear S1
        generalize wr.drewN nq = w2 at S2 ⊢
        go_wp2_with fail
        have c1 := S2.out.cell (F + root) (by omega)
        have c2 := S2.out.cell (F + (2 * root + 1)) (by omega)
        cases hlv : ltF dk[F + root]! dk[F + (2 * root + 1)]! with
        | true =>
          have hl := Lib.hid (lessF_quiet w2 _ _ hlv)
          have HL := Lib.hid hlv
          clear hlv
          generalize dk[F + root]! = x at c1 hl
          generalize dk[F + (2 * root + 1)]! = y at c2 hl
          go_wp2_with fail
          go_quiet ((go_at_call 50; exact hl.out _))
          have S3 := Lib.hid (S2.out.drewN nq)
          clear c1 c2 hl S2
          generalize w2.drewN nq = w3 at S3 ⊢
          have HQ := Lib.hid ((EQ.out.2 HL.out).symm.trans HI.out)
          have S4 := Lib.hid (S3.out.swapped (F + root) (F + (2 * root + 1)) (by omega) (by omega))
          have ca := S3.out.cell (F + root) (by omega)
          have cb := S3.out.cell (F + (2 * root + 1)) (by omega)
          have fa := S3.out.frozen (F + root) (by omega)
          have fb := S3.out.frozen (F + (2 * root + 1)) (by omega)
          obtain ⟨u, cc⟩ := S3.out.second (F + root) (F + (2 * root + 1)) (by omega) (by omega) (.float .f64 dk[F + (2 * root + 1)]!)
          generalize dk[F + root]! = x at ca S4
          generalize dk[F + (2 * root + 1)]! = y at cb S4 cc
          clear S3
          go_wp2_with fail
          go_big_region_o
          clear ca cb cc fa fb
          generalize ((w3.setCell ⟨bk, off + (F + root), none⟩ (.float .f64 y)).setCell ⟨bk, off + (F + (2 * root + 1)), none⟩ (.float .f64 x)).drew = w4 at S4 ⊢
          go_wp2
          go_roundw
          case rel => exact ⟨2 * root + 1, _, by omega, by first | rfl | go_num | (congr 1 <;> omega), HQ, S4⟩
          case measure => simp [intOf]; omega
        | false =>
          have hl := Lib.hid (lessF_quiet w2 _ _ hlv)
          have HL := Lib.hid hlv
          clear hlv
          generalize dk[F + root]! = x at c1 hl
          generalize dk[F + (2 * root + 1)]! = y at c2 hl
          go_wp2_with fail
          go_quiet ((go_at_call 50; exact hl.out _))
          have S3 := Lib.hid (S2.out.drewN nq)
          clear c1 c2 hl S2
          generalize w2.drewN nq = w3 at S3 ⊢
          have HQ := Lib.hid ((EQ.out.1 HL.out).symm.trans HI.out)
          go_wp2
          first | go_end0 | go_ret | refine bodyPost_ret (results_none rfl _ _ _) rfl ?_
          exact ⟨rfl, by rw [← HQ.out]; exact S3.out⟩

end Go.Proofs.Ytlibakmllogcdaa
