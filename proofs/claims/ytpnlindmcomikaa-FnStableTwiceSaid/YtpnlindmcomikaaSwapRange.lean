/-
  The contracts of slices.swapRangeCmpFunc and slices.rotateCmpFunc at ints, elements with a number of their own. No statement is proved here.
-/
import Derived.Test.YtpnlindmcomikaaStableLaw
import Derived.Test.YtpnlindmcomikaaBase
import Derived.Shelf.SlSortCmp.Kit1
import Derived.Deep.LoopGhost
namespace Go.Proofs.Ytpnlindmcomikaa
open Go.RowKit Go.Shelf Go.Sort Go.Lib

/-- An element as it lies in memory. -/
def encT (x : Tg) : Value := .int .i64 x.1
theorem encT_eq (x : Tg) : encT x = .int .i64 x.1 := rfl

theorem swT {w0 W : World} {bk off : Nat} {dk d0 : Array Tg} (h : SW encT w0 bk off dk W) (R : Row1 encT w0 bk off d0) (hs : dk.size = d0.size) (i : Nat) (hi : i < dk.size) : W.cell? ⟨bk, off + i, none⟩ = some (.int .i64 (dk[i]!).1) := h.c1 R hs i hi

set_option maxHeartbeats 2000000 in
set_option maxRecDepth 100000 in
/-- slices.swapRangeCmpFunc -/
theorem swapRange_calls (w0 w : World) (bk off cap a b n : Nat) (A B N : Int) (d0 d : Array Tg) (cv : Value) (R : Row1 encT w0 bk off d0) (hs : d.size = d0.size) (S : SW encT w0 bk off d w)
    (hA : A = a) (hB : B = b) (hN : N = n) (hab : a + n ≤ b) (hb : b + n ≤ d.size) (hsz : d.size < 4611686018427387904) :
    Calls Try.prog 60 #[.slice (some ⟨bk, off, none⟩) d.size cap, .int .i64 A, .int .i64 B, .int .i64 N, cv] w fun e w' => e = .returned (.tuple #[]) ∧ ∃ d', Swr a b n d d' ∧ SW encT w0 bk off d' w' := by
  subst hA hB hN
  have mixed : Try.prog.follows .mixedOrders = true := by kernel_rfl
  have S0 := Lib.hid S
  clear S
  go_enter Try.func60, Try.ntmps60
  go_wp2
  go_loopw [10] (fun i wr => ∃ (k : Nat) (dk : Array Tg), k ≤ n ∧ i = .int .i64 k ∧ dk.size = d.size ∧ Hid (Swr a b k d dk) ∧ Hid (SW encT w0 bk off dk wr)) (fun i _ => n - (intOf i).toNat)
  case atStart => exact ⟨0, d, Nat.zero_le _, rfl, rfl, Lib.hid (swr_none a b d), S0⟩
  case round =>
    clear S0
    obtain ⟨k, dk, hk, rfl, hsk, HW, S1⟩ := hrel
    by_cases hlt : k < n
    · have S3 := Lib.hid (S1.out.swapped R (a + k) (b + k) (by omega) (by omega))
      have HW3 := Lib.hid (HW.out.step (by omega) (by omega))
      have ca := swT S1.out R (by omega) (a + k) (by omega)
      have cb := swT S1.out R (by omega) (b + k) (by omega)
      have fa := S1.out.f1 R (by omega) (a + k) (by omega)
      have fb := S1.out.f1 R (by omega) (b + k) (by omega)
      rw [encT_eq, encT_eq] at S3
      obtain ⟨u, cc⟩ := S1.out.c2 R (by omega) (a + k) (b + k) (by omega) (by omega) (.int .i64 (dk[b + k]!).1)
      generalize (dk[a + k]!).1 = x at ca S3
      generalize (dk[b + k]!).1 = y at cb S3 cc
      clear S1 HW
      go_wp2_with fail
      go_big_region_o
      clear ca cb cc fa fb
      generalize ((wr.setCell ⟨bk, off + (a + k), none⟩ (.int .i64 y)).setCell ⟨bk, off + (b + k), none⟩ (.int .i64 x)).drew = w3 at S3 ⊢
      go_wp2
      go_roundw
      case rel => exact ⟨k + 1, _, by omega, by go_num, by rw [swp_size]; exact hsk, HW3, S3⟩
      case measure => simp [intOf]; omega
    · obtain rfl : k = n := by omega
      go_wp2
      go_end0
      exact ⟨rfl, dk, HW.out, S1.out⟩

set_option maxHeartbeats 2000000 in
set_option maxRecDepth 100000 in
/-- slices.rotateCmpFunc -/
theorem rotate_calls (w0 w : World) (bk off cap a m b : Nat) (A M B : Int) (d0 d : Array Tg) (cv : Value) (R : Row1 encT w0 bk off d0) (hs : d.size = d0.size) (S : SW encT w0 bk off d w)
    (hA : A = a) (hM : M = m) (hB : B = b) (ham : a < m) (hmb : m < b) (hb : b ≤ d.size) (hsz : d.size < 4611686018427387904) :
    Calls Try.prog 58 #[.slice (some ⟨bk, off, none⟩) d.size cap, .int .i64 A, .int .i64 M, .int .i64 B, cv] w fun e w' => e = .returned (.tuple #[]) ∧ ∃ d', Rot a m b d d' ∧ SW encT w0 bk off d' w' := by
  subst hA hM hB
  have S0 := Lib.hid S
  have Hs := Lib.hid hs
  clear S hs
  go_enter Try.func58, Try.ntmps58
  go_wp2
  go_loopw [10, 11] (fun vi vj wr => ∃ (i j : Nat) (dk : Array Tg), 0 < i ∧ 0 < j ∧ i ≤ m ∧ m + j ≤ d.size ∧ vi = .int .i64 i ∧ vj = .int .i64 j ∧ dk.size = d.size ∧ Hid (∀ d', Rot (m - i) m (m + j) dk d' → Rot a m b d d') ∧ Hid (SW encT w0 bk off dk wr)) (fun vi vj _ => (intOf vi).toNat + (intOf vj).toNat)
  case atStart =>
    refine ⟨m - a, b - m, d, by omega, by omega, by omega, by omega, ?_, ?_, rfl, Lib.hid (fun d' h => ?_), S0⟩
    · congr 1; omega
    · congr 1; omega
    · rw [show m - (m - a) = a by omega, show m + (b - m) = b by omega] at h; exact h
  case round =>
    clear S0
    obtain ⟨i, j, dk, hi0, hj0, him, hjd, rfl, rfl, hsk, HR, S1⟩ := hrel
    rcases Nat.lt_trichotomy i j with hij | hij | hij
    · have t1 : decide ((i : Int) ≠ (j : Int)) = true := by simp; omega
      have hcall := Lib.hid (fun (A B N : Int) (hA : A = (m - i : Nat)) (hB : B = (m + j - i : Nat)) (hN : N = (i : Nat)) => swapRange_calls w0 wr bk off cap (m - i) (m + j - i) i A B N d0 dk cv R (hsk.trans Hs.out) S1.out hA hB hN (by omega) (by omega) (by omega))
      rw [hsk] at hcall
      clear S1
      go_wp2_with (go_at_call 60; refine (hcall.out _ _ _ (by omega) (by omega) (by omega)).mono ?_; rintro e w1 ⟨rfl, d1, H1, S2⟩)
      go_roundw
      case rel => exact ⟨i, j - i, d1, hi0, by omega, him, by omega, rfl, by congr 1; omega, H1.size.trans hsk, Lib.hid (fun d' h => HR.out d' (Rot.less him hij H1 h)), Lib.hid S2⟩
      case measure => simp [intOf]; omega
    · subst hij
      have hcall := Lib.hid (fun (A B N : Int) (hA : A = (m - i : Nat)) (hB : B = (m : Nat)) (hN : N = (i : Nat)) => swapRange_calls w0 wr bk off cap (m - i) m i A B N d0 dk cv R (hsk.trans Hs.out) S1.out hA hB hN (by omega) (by omega) (by omega))
      rw [hsk] at hcall
      clear S1
      go_wp2_with (go_at_call 60; refine (hcall.out _ _ _ (by omega) (by omega) (by omega)).mono ?_; rintro e w1 ⟨rfl, d1, H1, S2⟩)
      go_end0
      exact ⟨rfl, d1, HR.out d1 (H1.rot (by omega)), S2⟩
    · have t1 : decide ((i : Int) ≠ (j : Int)) = true := by simp; omega
      have hcall := Lib.hid (fun (A B N : Int) (hA : A = (m - i : Nat)) (hB : B = (m : Nat)) (hN : N = (j : Nat)) => swapRange_calls w0 wr bk off cap (m - i) m j A B N d0 dk cv R (hsk.trans Hs.out) S1.out hA hB hN (by omega) (by omega) (by omega))
      rw [hsk] at hcall
      clear S1
      go_wp2_with (go_at_call 60; refine (hcall.out _ _ _ (by omega) (by omega) (by omega)).mono ?_; rintro e w1 ⟨rfl, d1, H1, S2⟩)
      go_roundw
      case rel => exact ⟨i - j, j, d1, by omega, hj0, by omega, hjd, by congr 1; omega, rfl, H1.size.trans hsk, Lib.hid (fun d' h => HR.out d' (Rot.more him hij H1 h)), Lib.hid S2⟩
      case measure => simp [intOf]; omega

end Go.Proofs.Ytpnlindmcomikaa
