/-
  slices.symMergeCmpFunc where the right part is one element. No statement is proved here.
-/
import Derived.Test.YtpnlindmcomikaaSymA
namespace Go.Proofs.Ytpnlindmcomikaa
open Go.RowKit Go.Shelf Go.Sort Go.Lib

set_option maxHeartbeats 4000000 in
set_option maxRecDepth 100000 in
theorem sym_right (w0 w : World) (bk off bx cap a m b : Nat) (A M B : Int) (tb : List Int) (d0 d : Array Tg) (R : Row1 encT w0 bk off d0) (hs : d.size = d0.size) (S : SW encT w0 bk off d w) (HC : CmpOk w0 bk off bx tb)
    (hA : A = a) (hM : M = m) (hB : B = b) (hm : b = m + 1) (ham : a + 1 < m) (hb : b ≤ d.size) (hsz : d.size < 4611686018427387904)
    (sB : SortedIn (lx (rk tb)) a m d) (hT : Tags a m b d) :
    Calls Try.prog 52 #[.slice (some ⟨bk, off, none⟩) d.size cap, .int .i64 A, .int .i64 M, .int .i64 B, .func (.func 34) #[] #[.pointer (some ⟨bx, 0, none⟩)]] w (SymPost tb w0 bk off a b d) := by
  subst hA hM hB
  have mixed : Try.prog.follows .mixedOrders = true := by kernel_rfl
  have eg : ∀ args w, (callFunc 34 args).run Try.prog w = .ok (.enter 34 args) w := enters_of Try.func34 (by kernel_rfl) rfl
  have t1 : ((m : Int) - (a : Int) == 1) = false := by simp; omega
  have t2 : ((b : Int) - (m : Int) == 1) = true := by simp; omega
  have Hs := Lib.hid hs
  have HS := Lib.hid S
  have HB := Lib.hid sB
  have HT := Lib.hid hT
  have Hm := Lib.hid hm
  have hmb : m < b := by omega
  have hm2 : b ≤ m + 1 := by omega
  clear hs S sB hT hm
  go_enter Try.func52, Try.ntmps52
  go_wp2
  go_loopw [14, 15] (fun u v wr => ∃ i j q : Nat, a ≤ i ∧ i ≤ j ∧ j ≤ m ∧ u = .int .i64 i ∧ v = .int .i64 j ∧ wr = w.drewN q ∧ Hid ((a < i → ltR (rk tb) d[m]! d[i - 1]! = false) ∧ (j < m → ltR (rk tb) d[m]! d[j]! = true))) (fun u v _ => (intOf v).toNat - (intOf u).toNat)
  case atStart => exact ⟨a, m, 0, Nat.le_refl _, by omega, Nat.le_refl _, rfl, rfl, rfl, Lib.hid ⟨fun h => by omega, fun h => by omega⟩⟩
  case round =>
    obtain ⟨i, j, q, hmi, hij, hjb, rfl, rfl, rfl, H⟩ := hrel
    by_cases hlt : i < j
    · obtain ⟨h, hh⟩ : ∃ h, h = (i + j) / 2 := ⟨_, rfl⟩
      have eh : ((i : Int) + (j : Int)) / 2 = (h : Int) := by omega
      have hh1 : i ≤ h := by omega
      have hh2 : h < j := by omega
      have hhd : h < d.size := by omega
      have had : m < d.size := by omega
      clear hh
      have c1 := swT HS.out R Hs.out h hhd
      have c2 := swT HS.out R Hs.out m had
      have hc := Lib.hid (HC.quiet HS.out q (d[m]!).1 (d[h]!).1)
      cases hlv : ltR (rk tb) d[m]! d[h]! with
      | false =>
        have hv := ck_of_not hlv
        have HL := Lib.hid hlv
        clear hlv
        generalize ck tb (d[m]!).1 (d[h]!).1 = cc at hc hv
        have hd : decide (cc < 0) = false := by simpa using hv
        generalize (d[h]!).1 = x at c1 hc
        generalize (d[m]!).1 = y at c2 hc
        go_wp2
        go_quiet ((go_at_call 34; exact hc.out _))
        go_wp2
        go_roundw
        case rel => exact ⟨h + 1, j, _, by omega, by omega, hjb, by go_num, rfl, rfl, Lib.hid ⟨fun _ => HL.out, H.out.2⟩⟩
        case measure => simp [intOf]; omega
      | true =>
        have hv := ck_of_lt hlv
        have HL := Lib.hid hlv
        clear hlv
        generalize ck tb (d[m]!).1 (d[h]!).1 = cc at hc hv
        have hd : decide (cc < 0) = true := by simpa using hv
        generalize (d[h]!).1 = x at c1 hc
        generalize (d[m]!).1 = y at c2 hc
        go_wp2
        go_quiet ((go_at_call 34; exact hc.out _))
        go_wp2
        go_roundw
        case rel => exact ⟨i, h, q + nq, hmi, by omega, by omega, rfl, rfl, by first | rfl | exact World.drewN_drewN _ _ _, Lib.hid ⟨H.out.1, fun _ => HL.out⟩⟩
        case measure => simp [intOf]; omega
    · obtain rfl : j = i := by omega
      go_wp2
      go_loopw [17] (fun u wr => ∃ (k : Nat) (dk : Array Tg), j ≤ k ∧ k ≤ m ∧ u = .int .i64 k ∧ dk.size = d.size ∧ Hid (Rot k m (m + 1) d dk) ∧ Hid (SW encT w0 bk off dk wr)) (fun u _ => (intOf u).toNat)
      case atStart => exact ⟨m, d, hjb, Nat.le_refl _, rfl, rfl, Lib.hid (rot_left m (m + 1) d), Lib.hid (HS.out.drewN q)⟩
      case round =>
        obtain ⟨k, dk, hjk, hkm, rfl, hsk, HR, S1⟩ := hrel
        by_cases hk : j < k
        · obtain ⟨p, rfl⟩ : ∃ p, k = p + 1 := ⟨k - 1, by omega⟩
          have S3 := Lib.hid (S1.out.swapped R (p + 1) p (by omega) (by omega))
          have HR3 := Lib.hid (HR.out.down hkm (by omega))
          have ca := swT S1.out R (hsk.trans Hs.out) (p + 1) (by omega)
          have cb := swT S1.out R (hsk.trans Hs.out) p (by omega)
          have fa := S1.out.f1 R (hsk.trans Hs.out) (p + 1) (by omega)
          have fb := S1.out.f1 R (hsk.trans Hs.out) p (by omega)
          rw [encT_eq, encT_eq] at S3
          obtain ⟨u, cc⟩ := S1.out.c2 R (hsk.trans Hs.out) (p + 1) p (by omega) (by omega) (.int .i64 (dk[p]!).1)
          generalize (dk[p + 1]!).1 = x at ca S3
          generalize (dk[p]!).1 = y at cb S3 cc
          have hk1 : p < d.size := by omega
          have hk2 : p + 1 < d.size := by omega
          have t3 : (j : Int) < (p : Int) + 1 := by omega
          clear S1 HR
          go_wp2_with fail
          go_big_region_o
          clear ca cb cc fa fb
          generalize ((wr.setCell ⟨bk, off + (p + 1), none⟩ (.int .i64 y)).setCell ⟨bk, off + p, none⟩ (.int .i64 x)).drew = w3 at S3 ⊢
          go_wp2
          go_roundw
          case rel => exact ⟨p, _, by omega, by omega, by first | rfl | go_num, by rw [swp_size]; exact hsk, HR3, S3⟩
          case measure => simp [intOf]; try omega
        · obtain rfl : k = j := by omega
          have fin := Lib.hid (merged_down (r := rk tb) (a := a) (i := k) (m := m) hmi hkm (by omega) HR.out HB.out (by rw [← Hm.out]; exact HT.out) H.out.1 H.out.2)
          clear HR H
          go_wp2
          first | go_end0 | go_ret | refine bodyPost_ret (results_none rfl _ _ _) rfl ?_
          exact ⟨rfl, dk, by rw [Hm.out]; exact fin.out, S1.out⟩

end Go.Proofs.Ytpnlindmcomikaa
