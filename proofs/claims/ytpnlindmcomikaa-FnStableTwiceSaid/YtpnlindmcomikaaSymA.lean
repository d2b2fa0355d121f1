/-
  slices.symMergeCmpFunc where the left part is one element. No statement is proved here.
-/
import Derived.Test.YtpnlindmcomikaaSwapRange
import Derived.Test.YtpnlindmcomikaaRank
namespace Go.Proofs.Ytpnlindmcomikaa
open Go.RowKit Go.Shelf Go.Sort Go.Lib

/-- What is asked of the comparison: by ranks, and it leaves the world as it is. -/
def CmpOk (w0 : World) (bk off bx : Nat) (tb : List Int) : Prop :=
  ∀ (dk : Array Tg) (W : World), SW encT w0 bk off dk W → ∀ x y : Int, Calls Try.prog 34 #[.int .i64 x, .int .i64 y, .pointer (some ⟨bx, 0, none⟩)] W fun e w' => e = .returned (.int .i64 (ck tb x y)) ∧ W = w'
theorem CmpOk.quiet {w0 W : World} {bk off bx : Nat} {tb : List Int} {dk : Array Tg} (h : CmpOk w0 bk off bx tb) (S : SW encT w0 bk off dk W) (q : Nat) (x y : Int) (n : Nat) :
    Calls Try.prog 34 #[.int .i64 x, .int .i64 y, .pointer (some ⟨bx, 0, none⟩)] (W.drewN (q + n)) fun e w' => e = .returned (.int .i64 (ck tb x y)) ∧ ∃ m, w' = W.drewN (q + m) :=
  calls_quiet1 (h dk _ (S.drewN (q + n)) x y)
theorem ck_neg (tb : List Int) (x y : Int) : ck tb x y < 0 ↔ rk tb x < rk tb y := by
  unfold ck
  by_cases h1 : rk tb x < rk tb y
  · simp [h1]
  · by_cases h2 : rk tb y < rk tb x <;> simp [h1, h2]
theorem ck_of_lt {tb : List Int} {x y : Tg} (h : ltR (rk tb) x y = true) : ck tb x.1 y.1 < 0 := (ck_neg _ _ _).2 (by simpa [ltR] using h)
theorem ck_of_not {tb : List Int} {x y : Tg} (h : ltR (rk tb) x y = false) : ¬ ck tb x.1 y.1 < 0 := fun k => by have := (ck_neg _ _ _).1 k; simp [ltR] at h; omega

/-- What a merge hands back. -/
def SymPost (tb : List Int) (w0 : World) (bk off a b : Nat) (d : Array Tg) (e : Ending) (w' : World) : Prop :=
  e = .returned (.tuple #[]) ∧ ∃ d', Merged (rk tb) a b d d' ∧ SW encT w0 bk off d' w'

set_option maxHeartbeats 4000000 in
set_option maxRecDepth 100000 in
theorem sym_left (w0 w : World) (bk off bx cap a m b : Nat) (A M B : Int) (tb : List Int) (d0 d : Array Tg) (R : Row1 encT w0 bk off d0) (hs : d.size = d0.size) (S : SW encT w0 bk off d w) (HC : CmpOk w0 bk off bx tb)
    (hA : A = a) (hM : M = m) (hB : B = b) (hm : m = a + 1) (hmb : m < b) (hb : b ≤ d.size) (hsz : d.size < 4611686018427387904)
    (sB : SortedIn (lx (rk tb)) m b d) (hT : Tags a m b d) :
    Calls Try.prog 52 #[.slice (some ⟨bk, off, none⟩) d.size cap, .int .i64 A, .int .i64 M, .int .i64 B, .func (.func 34) #[] #[.pointer (some ⟨bx, 0, none⟩)]] w (SymPost tb w0 bk off a b d) := by
  subst hA hM hB
  have mixed : Try.prog.follows .mixedOrders = true := by kernel_rfl
  have eg : ∀ args w, (callFunc 34 args).run Try.prog w = .ok (.enter 34 args) w := enters_of Try.func34 (by kernel_rfl) rfl
  have t1 : ((m : Int) - (a : Int) == 1) = true := by simp; omega
  have Hs := Lib.hid hs
  have HS := Lib.hid S
  have HB := Lib.hid sB
  have HT := Lib.hid hT
  have Hm := Lib.hid hm
  have ham : a < m := by omega
  have hm2 : m ≤ a + 1 := by omega
  clear hs S sB hT hm
  go_enter Try.func52, Try.ntmps52
  go_wp2
  go_loopw [10, 11] (fun u v wr => ∃ i j q : Nat, m ≤ i ∧ i ≤ j ∧ j ≤ b ∧ u = .int .i64 i ∧ v = .int .i64 j ∧ wr = w.drewN q ∧ Hid ((m < i → ltR (rk tb) d[i - 1]! d[a]! = true) ∧ (j < b → ltR (rk tb) d[j]! d[a]! = false))) (fun u v _ => (intOf v).toNat - (intOf u).toNat)
  case atStart => exact ⟨m, b, 0, Nat.le_refl _, by omega, Nat.le_refl _, rfl, rfl, rfl, Lib.hid ⟨fun h => by omega, fun h => by omega⟩⟩
  case round =>
    obtain ⟨i, j, q, hmi, hij, hjb, rfl, rfl, rfl, H⟩ := hrel
    by_cases hlt : i < j
    · obtain ⟨h, hh⟩ : ∃ h, h = (i + j) / 2 := ⟨_, rfl⟩
      have eh : ((i : Int) + (j : Int)) / 2 = (h : Int) := by omega
      have hh1 : i ≤ h := by omega
      have hh2 : h < j := by omega
      have hhd : h < d.size := by omega
      have had : a < d.size := by omega
      clear hh
      have c1 := swT HS.out R Hs.out h hhd
      have c2 := swT HS.out R Hs.out a had
      have hc := Lib.hid (HC.quiet HS.out q (d[h]!).1 (d[a]!).1)
      cases hlv : ltR (rk tb) d[h]! d[a]! with
      | true =>
        have hv := ck_of_lt hlv
        have HL := Lib.hid hlv
        clear hlv
        generalize ck tb (d[h]!).1 (d[a]!).1 = cc at hc hv
        generalize (d[h]!).1 = x at c1 hc
        generalize (d[a]!).1 = y at c2 hc
        go_wp2
        go_quiet ((go_at_call 34; exact hc.out _))
        go_wp2
        go_roundw
        case rel => exact ⟨h + 1, j, _, by omega, by omega, hjb, by go_num, rfl, rfl, Lib.hid ⟨fun _ => HL.out, H.out.2⟩⟩
        case measure => simp [intOf]; omega
      | false =>
        have hv := ck_of_not hlv
        have HL := Lib.hid hlv
        clear hlv
        generalize ck tb (d[h]!).1 (d[a]!).1 = cc at hc hv
        generalize (d[h]!).1 = x at c1 hc
        generalize (d[a]!).1 = y at c2 hc
        go_wp2
        go_quiet ((go_at_call 34; exact hc.out _))
        go_wp2
        go_roundw
        case rel => exact ⟨i, h, q + nq, hmi, by omega, by omega, rfl, rfl, by first | rfl | exact World.drewN_drewN _ _ _, Lib.hid ⟨H.out.1, fun _ => HL.out⟩⟩
        case measure => simp [intOf]; omega
    · obtain rfl : j = i := by omega
      go_wp2
      go_loopw [13] (fun u wr => ∃ (k : Nat) (dk : Array Tg), a ≤ k ∧ k + 1 ≤ j ∧ u = .int .i64 k ∧ dk.size = d.size ∧ Hid (Rot a (a + 1) (k + 1) d dk) ∧ Hid (SW encT w0 bk off dk wr)) (fun u _ => j - (intOf u).toNat)
      case atStart => exact ⟨a, d, Nat.le_refl _, by omega, rfl, rfl, Lib.hid (rot_right a (a + 1) d), Lib.hid (HS.out.drewN q)⟩
      case round =>
        obtain ⟨k, dk, hak, hkj, rfl, hsk, HR, S1⟩ := hrel
        by_cases hk : k + 1 < j
        · have t3 : (k : Int) < (j : Int) - 1 := by omega
          have S3 := Lib.hid (S1.out.swapped R k (k + 1) (by omega) (by omega))
          have HR3 := Lib.hid (HR.out.up hak (by omega))
          have ca := swT S1.out R (hsk.trans Hs.out) k (by omega)
          have cb := swT S1.out R (hsk.trans Hs.out) (k + 1) (by omega)
          have fa := S1.out.f1 R (hsk.trans Hs.out) k (by omega)
          have fb := S1.out.f1 R (hsk.trans Hs.out) (k + 1) (by omega)
          rw [encT_eq, encT_eq] at S3
          obtain ⟨u, cc⟩ := S1.out.c2 R (hsk.trans Hs.out) k (k + 1) (by omega) (by omega) (.int .i64 (dk[k + 1]!).1)
          generalize (dk[k]!).1 = x at ca S3
          generalize (dk[k + 1]!).1 = y at cb S3 cc
          have hk1 : k < d.size := by omega
          have hk2 : k + 1 < d.size := by omega
          clear S1 HR
          go_wp2_with fail
          go_big_region_o
          clear ca cb cc fa fb
          generalize ((wr.setCell ⟨bk, off + k, none⟩ (.int .i64 y)).setCell ⟨bk, off + (k + 1), none⟩ (.int .i64 x)).drew = w3 at S3 ⊢
          go_wp2
          go_roundw
          case rel => exact ⟨k + 1, _, by omega, by omega, by go_num, by rw [swp_size]; exact hsk, HR3, S3⟩
          case measure => simp [intOf]; omega
        · obtain rfl : j = k + 1 := by omega
          have t3 : ¬ (k : Int) < ((k : Int) + 1) - 1 := by omega
          have fin := Lib.hid (merged_up (r := rk tb) (a := a) (i := k + 1) (b := b) (by omega) hjb hb HR.out (by rw [← Hm.out]; exact HB.out) (by rw [← Hm.out]; exact HT.out) H.out.2 (fun h => H.out.1 (by omega)))
          clear HR H
          go_wp2
          first | go_end0 | go_ret | refine bodyPost_ret (results_none rfl _ _ _) rfl ?_
          exact ⟨rfl, dk, fin.out, S1.out⟩

end Go.Proofs.Ytpnlindmcomikaa
