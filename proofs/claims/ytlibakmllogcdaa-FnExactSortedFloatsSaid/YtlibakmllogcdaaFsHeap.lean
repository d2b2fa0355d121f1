/-
  slices.heapSortOrdered at float64. No statement is proved here.
-/
import Derived.Test.YtlibakmllogcdaaFsSift
namespace Go.Proofs.Ytlibakmllogcdaa
open Go.RowKit Go.Shelf Go.Sort Go.Lib

set_option maxHeartbeats 4000000 in
set_option maxRecDepth 100000 in
theorem fsHeap_calls (w0 w : World) (bk off cap n a b : Nat) (A B : Int) (d : Array Nat) (S : At w0 bk off n d w) (hA : A = a) (hB : B = b) (hab : a < b) (hb : b ≤ n) (hn : n < 1152921504606846976) :
    Calls Try.prog 45 #[.slice (some ⟨bk, off, none⟩) n cap, .int .i64 A, .int .i64 B] w fun e w' => e = .returned (.tuple #[]) ∧ ∃ d', PermIn a b d d' ∧ SortedIn ltF a b d' ∧ At w0 bk off n d' w' := by
  subst hA hB
  have mixed : Try.prog.follows .mixedOrders = true := by kernel_rfl
  have hst := storeF
  have S0 := Lib.hid S
  clear S
  obtain ⟨h, hh⟩ : ∃ h, h = b - a := ⟨_, rfl⟩
  have eh : (b : Int) - (a : Int) = (h : Int) := by omega
  obtain ⟨m, hm⟩ : ∃ m, m = (h - 1) / 2 := ⟨_, rfl⟩
  have em : Int.tdiv ((h : Int) - 1) 2 = (m : Int) := by rw [Int.tdiv_eq_ediv_of_nonneg (by omega)]; omega
  have hah : a + h = b := by omega
  have hmh : m < h := by omega
  have Hm := Lib.hid hm
  have Hh := Lib.hid hh
  clear hm hh
  go_enter Try.func45, Try.ntmps45
  go_wp2
  go_loopw [9] (fun u wr => ∃ (k : Nat) (dk : Array Nat), k ≤ m + 1 ∧ u = .int .i64 ((k : Int) - 1) ∧ Hid (heapBuild ltF h a k dk = heapBuild ltF h a (m + 1) d) ∧ Hid (At w0 bk off n dk wr)) (fun u _ => (intOf u + 1).toNat)
  case atStart => exact ⟨m + 1, d, by omega, by congr 1 <;> omega, Lib.hid rfl, S0⟩
  case round =>
    obtain ⟨k, dk, hk, rfl, HI, S1⟩ := hrel
    cases k with
    | succ p =>
      have ep : ((p + 1 : Nat) : Int) - 1 = (p : Int) := by omega
      rw [ep]
      have hc := Lib.hid (fun (A B C : Int) (hA : A = (p : Nat)) (hB : B = (h : Nat)) (hC : C = (a : Nat)) => fsSift_calls w0 wr bk off cap n p h a A B C dk S1.out hA hB hC (by omega) (by omega) hn)
      have g1 : (0 : Int) ≤ (p : Int) := by omega
      clear S1
      go_wp2_with (go_at_call 59; refine (hc.out _ _ _ rfl rfl rfl).mono ?_; rintro e w2 ⟨rfl, S2⟩)
      go_roundw
      case rel => exact ⟨p, _, by omega, rfl, Lib.hid HI.out, Lib.hid S2⟩
      case measure => simp [intOf]; try omega
    | zero =>
      have ep : ((0 : Nat) : Int) - 1 = -1 := rfl
      rw [ep]
      have HI2 : Hid (dk = heapBuild ltF h a (m + 1) d) := Lib.hid HI.out
      clear HI
      go_wp2_with fail
      go_loopw [10] (fun u wr => ∃ (k : Nat) (dj : Array Nat), k ≤ h ∧ u = .int .i64 ((k : Int) - 1) ∧ Hid (heapPop ltF a k dj = heapPop ltF a h dk) ∧ Hid (At w0 bk off n dj wr)) (fun u _ => (intOf u + 1).toNat)
      case atStart => exact ⟨h, dk, Nat.le_refl _, rfl, Lib.hid rfl, S1⟩
      case round =>
        clear S1
        obtain ⟨k, dj, hk2, rfl, HJ, S1⟩ := hrel
        cases k with
        | succ p =>
          have ep2 : ((p + 1 : Nat) : Int) - 1 = (p : Int) := by omega
          rw [ep2]
          have g1 : (0 : Int) ≤ (p : Int) := by omega
          have k1 : a < n := by omega
          have k2 : a + p < n := by omega
          have S2 := Lib.hid (S1.out.swapped (a) (a + p) (by omega) (by omega))
          have ca := S1.out.cell (a) (by omega)
          have cb := S1.out.cell (a + p) (by omega)
          have fa := S1.out.frozen (a) (by omega)
          have fb := S1.out.frozen (a + p) (by omega)
          obtain ⟨u, cc⟩ := S1.out.second (a) (a + p) (by omega) (by omega) (.float .f64 dj[a + p]!)
          generalize dj[a]! = x at ca S2
          generalize dj[a + p]! = y at cb S2 cc
          clear S1
          go_wp2_with fail
          go_big_region_o
          clear ca cb cc fa fb
          generalize ((wr.setCell ⟨bk, off + (a), none⟩ (.float .f64 y)).setCell ⟨bk, off + (a + p), none⟩ (.float .f64 x)).drew = w2 at S2 ⊢
          have hc := Lib.hid (fun (A B C : Int) (hA : A = (0 : Nat)) (hB : B = (p : Nat)) (hC : C = (a : Nat)) => fsSift_calls w0 w2 bk off cap n 0 p a A B C _ S2.out hA hB hC (by omega) (by omega) hn)
          clear S2
          go_wp2_with (go_at_call 59; refine (hc.out _ _ _ rfl rfl rfl).mono ?_; rintro e w3 ⟨rfl, S3⟩)
          go_roundw
          case rel => exact ⟨p, _, by omega, rfl, Lib.hid HJ.out, Lib.hid S3⟩
          case measure => simp [intOf]; try omega
        | zero =>
          have ep2 : ((0 : Nat) : Int) - 1 = -1 := rfl
          rw [ep2]
          go_wp2
          go_end0
          have hs := heapSort_holds (lt := ltF) swo_ltF d a b (by omega) (by rw [S0.out.size]; exact hb)
          have e1 : heapSort ltF d a b = dj := by
            unfold heapSort
            rw [← Hh.out, ← Hm.out, ← HI2.out]
            exact HJ.out.symm
          rw [e1] at hs
          exact ⟨rfl, dj, hs.1, hs.2, S1.out⟩

end Go.Proofs.Ytlibakmllogcdaa
