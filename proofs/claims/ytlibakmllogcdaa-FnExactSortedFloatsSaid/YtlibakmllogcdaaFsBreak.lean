/-
  slices.breakPatternsOrdered at float64. No statement is proved here.
-/
import Derived.Test.YtlibakmllogcdaaFloatKit
import Derived.Test.YtlibakmllogcdaaShelf
import Derived.Sort.LotD5
import Derived.Sort.LotD1
import Derived.Shelf.SlSortCmp.Xorshift
namespace Go.Proofs.Ytlibakmllogcdaa
open Go.RowKit Go.Shelf Go.Sort Go.Lib

theorem and_some (X Y : Nat) (hX : X < 18446744073709551616) (hY : Y < 18446744073709551616) : ∃ z : Nat, bits .and .u64 (X : Int) (Y : Int) = (z : Int) ∧ z ≤ Y := by
  refine ⟨X &&& Y, ?_, Nat.and_le_right⟩
  have hlt : X &&& Y < 2 ^ 64 := Nat.lt_of_le_of_lt Nat.and_le_right (by omega)
  show IntKind.u64.wrap ((BitVec.ofInt 64 (X : Int) &&& BitVec.ofInt 64 (Y : Int)).toNat : Int) = _
  rw [BitVec.toNat_and, BitVec.ofInt_natCast, BitVec.ofInt_natCast, BitVec.toNat_ofNat, BitVec.toNat_ofNat, Nat.mod_eq_of_lt (by omega), Nat.mod_eq_of_lt (by omega)]
  simp [IntKind.wrap, IntKind.bits, IntKind.signed]
  omega

set_option maxHeartbeats 4000000 in
set_option maxRecDepth 100000 in
theorem fsBreak_calls (w0 w : World) (bk off cap n a b : Nat) (A B : Int) (d : Array Nat) (S : At w0 bk off n d w) (hA : A = a) (hB : B = b) (hab : a + 12 < b) (hb : b ≤ n) (hn : n < 1152921504606846976) :
    Calls Try.prog 46 #[.slice (some ⟨bk, off, none⟩) n cap, .int .i64 A, .int .i64 B] w fun e w' => e = .returned (.tuple #[]) ∧ ∃ d', PermIn a b d d' ∧ At w0 bk off n d' w' := by
  subst hA hB
  have mixed : Try.prog.follows .mixedOrders = true := by kernel_rfl
  have hst := storeF
  obtain ⟨L, hL⟩ : ∃ l, l = b - a := ⟨_, rfl⟩
  have eL : (b : Int) - (a : Int) = (L : Int) := by omega
  obtain ⟨q, hq⟩ : ∃ q, q = L / 4 := ⟨_, rfl⟩
  have eq1 : Int.tdiv (L : Int) 4 = (q : Int) := by rw [Int.tdiv_eq_ediv_of_nonneg (by omega)]; omega
  have lq : 4 * q ≤ L := by omega
  have lq2 : 3 ≤ q := by omega
  have hla : a + L = b := by omega
  have k8 : (8 : Int) ≤ (L : Int) := by omega
  have k8' : 8 ≤ L := by omega
  have hM1 := two_pow_bitsLen_le (n := L) (by omega)
  have hM2 := lt_two_pow_bitsLen L
  obtain ⟨M, hM⟩ : ∃ M, M = 1 <<< bitsLen L := ⟨_, rfl⟩
  rw [Nat.one_shiftLeft] at hM
  have hM3 : M ≤ 2 * L := by rw [hM]; exact hM1
  have hM4 : L < M := by rw [hM]; exact hM2
  have hnp : ∀ W, Calls Try.prog 54 #[.int .i64 L] W fun e w' => e = .returned (.int .u64 (M : Int)) ∧ w' = W := fun W => by
    have h := AnyF.nextPowerOfTwo Try.nptL L (by omega) W
    rw [Nat.one_shiftLeft, ← hM] at h
    exact h
  have Hnp := Lib.hid hnp
  have C0 : Hid (At w0 bk off n d (w.alloc (.cells #[.int .u64 L] 80))) := Lib.hid (S.alloc _)
  have hwl := S.le
  clear S hq hL hM hM1 hM2 hnp
  obtain ⟨Y, hY⟩ : ∃ Y, Y = M - 1 := ⟨_, rfl⟩
  have eY : (M : Int) - 1 = (Y : Int) := by omega
  have hYL : Y < 2 * L := by omega
  clear hY
  go_enter Try.func46, Try.ntmps46
  go_wp2_with (go_at_call 54; refine (Hnp.out _).mono ?_; rintro e w1 ⟨rfl, rfl⟩)
  obtain ⟨rb, hrb0⟩ : ∃ rb, rb = w.heap.size := ⟨_, rfl⟩
  have hbk := C0.out.blk
  have hrb : rb ≠ bk := by omega
  have hrw : w0.heap.size ≤ rb := by omega
  go_loopw [9] (fun u wr => ∃ (i X : Nat) (dk : Array Nat), a + q * 2 ≤ i + 1 ∧ i ≤ a + q * 2 + 2 ∧ u = .int .i64 i ∧ X < 18446744073709551616 ∧ Hid (wr.cell? ⟨rb, 0, none⟩ = some (.int .u64 X)) ∧ Hid (wr.frozen? ⟨rb, 0, none⟩ = false) ∧ Hid (PermIn a b d dk) ∧ Hid (At w0 bk off n dk wr)) (fun u _ => a + q * 2 + 2 - (intOf u).toNat)
  case atStart => exact ⟨a + q * 2 - 1, L, d, by omega, by omega, by congr 1 <;> omega, by omega, Lib.hid (by rw [hrb0]; simp), Lib.hid (by rw [hrb0]; simp), Lib.hid (permIn_refl _ _ _), C0⟩
  case round =>
    clear C0
    obtain ⟨i, X, dk, hi1, hi2, rfl, hX, CX0, FX0, HP, S1⟩ := hrel
    by_cases hle : i ≤ a + q * 2 + 1
    · have g1 : (i : Int) ≤ (a : Int) + (q : Int) * 2 + 1 := by omega
      have hN : Calls Try.prog 55 #[.pointer (some ⟨rb, 0, none⟩)] wr fun e w' => e = .returned (.int .u64 (xorNextN X : Nat)) ∧ w' = (wr.setCell ⟨rb, 0, none⟩ (.int .u64 (xorNextN X : Nat))).drewN 3 := AnyF.xorshift_Next Try.xorL rb 0 X hX wr CX0.out FX0.out
      have hX' := xorNextN_lt X hX
      generalize xorNextN X = X' at hN hX'
      obtain ⟨o, eo, ho⟩ := and_some X' Y hX' (by omega)
      have HN := Lib.hid (hN.mono (R' := fun e w' => e = .returned (.int .u64 (X' : Nat)) ∧ (wr.setCell ⟨rb, 0, none⟩ (.int .u64 (X' : Int))).drewN 3 = w') fun e w' ⟨h1, h2⟩ => ⟨h1, h2.symm⟩)
      have S2 := Lib.hid ((S1.out.put rb 0 (.int .u64 (X' : Int)) hrw).drewN 3)
      have CX : Hid (((wr.setCell ⟨rb, 0, none⟩ (.int .u64 (X' : Int))).drewN 3).cell? ⟨rb, 0, none⟩ = some (.int .u64 X')) := Lib.hid (World.cell?_setCell_same' wr ⟨rb, 0, none⟩ _ (by rw [CX0.out]; rfl))
      have FX : Hid (((wr.setCell ⟨rb, 0, none⟩ (.int .u64 (X' : Int))).drewN 3).frozen? ⟨rb, 0, none⟩ = false) := Lib.hid (by show (wr.setCell ⟨rb, 0, none⟩ _).frozen? _ = _; rw [World.frozen?_setCell]; exact FX0.out)
      clear hN S1 CX0 FX0 hX
      subst hrb0
      generalize (wr.setCell ⟨w.heap.size, 0, none⟩ (.int .u64 (X' : Int))).drewN 3 = w2 at HN S2 CX FX
      by_cases hoL : L ≤ o
      · obtain ⟨o', ho'⟩ : ∃ o', o = o' + L := ⟨o - L, by omega⟩
        have g2 : (L : Int) ≤ (o : Int) := by omega
        have e3 : (o : Int) - (L : Int) = (o' : Int) := by omega
        go_wp2_with (go_at_call 55; refine HN.out.mono ?_; rintro e w9 ⟨rfl, rfl⟩)
        have HQ := Lib.hid (permIn_trans _ _ _ _ _ HP.out (swp_permIn dk a b i (a + o') (by omega) (by omega) (by omega) (by omega) (by rw [S2.out.size]; exact hb)))
        have kk1 : i < n := by omega
        have kk2 : a + o' < n := by omega
        have S4 := Lib.hid (S2.out.swapped (i) (a + o') (by omega) (by omega))
        have ca := S2.out.cell (i) (by omega)
        have cb := S2.out.cell (a + o') (by omega)
        have fa := S2.out.frozen (i) (by omega)
        have fb := S2.out.frozen (a + o') (by omega)
        obtain ⟨u, cc⟩ := S2.out.second (i) (a + o') (by omega) (by omega) (.float .f64 dk[a + o']!)
        generalize dk[i]! = x at ca S4
        generalize dk[a + o']! = y at cb S4 cc
        have CX3 := Lib.hid (box_kept_swap1 hrb CX.out FX.out (off + (i)) (off + (a + o')) (.float .f64 y) (.float .f64 x)).1
        have FX3 := Lib.hid (box_kept_swap1 hrb CX.out FX.out (off + (i)) (off + (a + o')) (.float .f64 y) (.float .f64 x)).2
        clear S2
        go_wp2_with fail
        go_big_region_o
        clear ca cb cc fa fb
        generalize ((w2.setCell ⟨bk, off + (i), none⟩ (.float .f64 y)).setCell ⟨bk, off + (a + o'), none⟩ (.float .f64 x)).drew = w3 at S4 CX3 FX3 ⊢
        go_wp2
        go_roundw
        case rel => exact ⟨i + 1, X', _, by omega, by omega, by go_num, hX', CX3, FX3, HQ, S4⟩
        case measure => simp [intOf]; omega
      · have g2 : ¬ (L : Int) ≤ (o : Int) := by omega
        go_wp2_with (go_at_call 55; refine HN.out.mono ?_; rintro e w9 ⟨rfl, rfl⟩)
        have HQ := Lib.hid (permIn_trans _ _ _ _ _ HP.out (swp_permIn dk a b i (a + o) (by omega) (by omega) (by omega) (by omega) (by rw [S2.out.size]; exact hb)))
        have kk1 : i < n := by omega
        have kk2 : a + o < n := by omega
        have S4 := Lib.hid (S2.out.swapped (i) (a + o) (by omega) (by omega))
        have ca := S2.out.cell (i) (by omega)
        have cb := S2.out.cell (a + o) (by omega)
        have fa := S2.out.frozen (i) (by omega)
        have fb := S2.out.frozen (a + o) (by omega)
        obtain ⟨u, cc⟩ := S2.out.second (i) (a + o) (by omega) (by omega) (.float .f64 dk[a + o]!)
        generalize dk[i]! = x at ca S4
        generalize dk[a + o]! = y at cb S4 cc
        have CX3 := Lib.hid (box_kept_swap1 hrb CX.out FX.out (off + (i)) (off + (a + o)) (.float .f64 y) (.float .f64 x)).1
        have FX3 := Lib.hid (box_kept_swap1 hrb CX.out FX.out (off + (i)) (off + (a + o)) (.float .f64 y) (.float .f64 x)).2
        clear S2
        go_wp2_with fail
        go_big_region_o
        clear ca cb cc fa fb
        generalize ((w2.setCell ⟨bk, off + (i), none⟩ (.float .f64 y)).setCell ⟨bk, off + (a + o), none⟩ (.float .f64 x)).drew = w3 at S4 CX3 FX3 ⊢
        go_wp2
        go_roundw
        case rel => exact ⟨i + 1, X', _, by omega, by omega, by go_num, hX', CX3, FX3, HQ, S4⟩
        case measure => simp [intOf]; omega
    · have g1 : ¬ (i : Int) ≤ (a : Int) + (q : Int) * 2 + 1 := by omega
      go_wp2
      go_end0
      exact ⟨rfl, dk, HP.out, S1.out⟩

end Go.Proofs.Ytlibakmllogcdaa
