/-
  The contract of slices.stableCmpFunc by ranks: a stable sort. No statement is proved here.
-/
import Derived.Test.YtpnlindmcomikaaSymC
import Derived.Test.YtpnlindmcomikaaShelf
namespace Go.Proofs.Ytpnlindmcomikaa
open Go.RowKit Go.Shelf Go.Sort Go.Lib

/-- The comparison of elements with a number. -/
def cfT (tb : List Int) (x y : Tg) : Int := ck tb x.1 y.1
theorem ltOf_cfT (tb : List Int) : ltOf (cfT tb) = ltR (rk tb) := by
  funext x y
  unfold ltOf cfT ltR
  by_cases h : rk tb x.1 < rk tb y.1
  · simp [h, (ck_neg tb x.1 y.1).2 h]
  · have := fun k => h ((ck_neg tb x.1 y.1).1 k)
    simp only [h, decide_false]
    exact decide_eq_false this

/-- slices.insertionSortCmpFunc, numbers rising. -/
theorem ins_calls (w0 w : World) (bk off bx cap a b : Nat) (A B : Int) (tb : List Int) (d0 d : Array Tg) (R : Row1 encT w0 bk off d0) (hs : d.size = d0.size) (S : SW encT w0 bk off d w)
    (HL : CmpLays1 Try.prog 34 #[.pointer (some ⟨bx, 0, none⟩)] encT (cfT tb) bk off d0.size w0)
    (hA : A = a) (hB : B = b) (hab : a ≤ b) (hb : b ≤ d.size) (hsz : d.size < 4611686018427387904) (ht : ∀ i, a ≤ i → i < d.size → (d[i]!).2 = i) :
    Calls Try.prog 42 #[.slice (some ⟨bk, off, none⟩) d.size cap, .int .i64 A, .int .i64 B, .func (.func 34) #[] #[.pointer (some ⟨bx, 0, none⟩)]] w fun e w' =>
      e = .returned (.tuple #[]) ∧ ∃ d', PermIn a b d d' ∧ SortedIn (lx (rk tb)) a b d' ∧ SW encT w0 bk off d' w' := by
  subst hA hB
  refine (Try.insertionSortCmpFunc_s encT (cfT tb) 34 #[.pointer (some ⟨bx, 0, none⟩)] bk off cap a b d0 d w0 w (enters_of Try.func34 (by kernel_rfl) rfl) HL R hs.symm S hab hb hsz).mono ?_
  rintro e w' ⟨rfl, S'⟩
  rw [ltOf_cfT] at S'
  obtain ⟨h1, h2⟩ := insertion_stable (r := rk tb) d a b hab hb (fun k m hk hkm hm => by rw [ht k hk (by omega), ht m (by omega) (by omega)]; exact hkm)
  exact ⟨rfl, _, h1, h2, S'⟩

set_option maxHeartbeats 8000000 in
set_option maxRecDepth 100000 in
/-- slices.stableCmpFunc by ranks -/
theorem stable_calls (w : World) (bk off bx cap : Nat) (tb : List Int) (d : Array Tg) (R : Row1 encT w bk off d) (HC : CmpOk w bk off bx tb)
    (HL : CmpLays1 Try.prog 34 #[.pointer (some ⟨bx, 0, none⟩)] encT (cfT tb) bk off d.size w) (hsz : d.size < 1152921504606846976) (ht : ∀ i, i < d.size → (d[i]!).2 = i) :
    Calls Try.prog 41 #[.slice (some ⟨bk, off, none⟩) d.size cap, .int .i64 d.size, .func (.func 34) #[] #[.pointer (some ⟨bx, 0, none⟩)]] w fun e w' =>
      e = .returned (.tuple #[]) ∧ ∃ d', PermIn 0 d.size d d' ∧ SortedIn (lx (rk tb)) 0 d.size d' ∧ SW encT w bk off d' w' := by
  have HT := Lib.hid ht
  have Hsym := Lib.hid (sym_all w bk off bx cap tb d R HC (by omega) d.size)
  have S0 := Lib.hid (SW.start R.hH)
  have HLL := Lib.hid HL
  have Hins := Lib.hid (fun (wr : World) (a b : Nat) (A B : Int) (dk : Array Tg) (hs : dk.size = d.size) (S : SW encT w bk off dk wr) (hA : A = a) (hB : B = b) (hab : a ≤ b) (hb : b ≤ dk.size) (ht : ∀ i, a ≤ i → i < dk.size → (dk[i]!).2 = i) => ins_calls w wr bk off bx cap a b A B tb d dk R hs S HLL.out hA hB hab hb (by omega) ht)
  clear ht HL
  go_enter Try.func41, Try.ntmps41
  go_wp2
  go_loopw [7, 8] (fun u v wr => ∃ (a : Nat) (dk : Array Tg), a ≤ d.size ∧ u = .int .i64 a ∧ v = .int .i64 (a + 20 : Nat) ∧ Hid (dk.size = d.size) ∧ Hid (Front (rk tb) 20 dk a) ∧ Hid (∀ i, a ≤ i → i < dk.size → (dk[i]!).2 = i) ∧ Hid (PermIn 0 d.size d dk) ∧ Hid (SW encT w bk off dk wr)) (fun u _ _ => d.size - (intOf u).toNat)
  case atStart => exact ⟨0, d, Nat.zero_le _, rfl, rfl, Lib.hid rfl, Lib.hid .none, Lib.hid (fun i _ hi => HT.out i hi), Lib.hid (permIn_refl _ _ _), S0⟩
  case round =>
    obtain ⟨a, dk, had, rfl, rfl, HZ, HF, HG, HP, S1⟩ := hrel
    by_cases hlt : a + 20 ≤ d.size
    · have hc := Lib.hid (fun (A B : Int) (hA : A = (a : Nat)) (hB : B = (a + 20 : Nat)) => Hins.out wr a (a + 20) A B dk HZ.out S1.out hA hB (by omega) (by rw [HZ.out]; exact hlt) HG.out)
      rw [HZ.out] at hc
      clear S1
      have t1 : (a : Int) + 20 ≤ (d.size : Int) := by omega
      go_wp2_with (go_at_call 42; refine (hc.out _ _ rfl (by simp)).mono ?_; rintro e w1 ⟨rfl, d1, P1, Q1, S2⟩)
      have hf := front_step HF.out (by rw [HZ.out]; exact hlt) HG.out P1 Q1
      have h1 := P1.1.trans HZ.out
      have hp := permIn_trans _ _ _ _ _ HP.out (permIn_mono dk d1 a (a + 20) 0 d.size (Nat.zero_le _) hlt (by rw [HZ.out]; exact Nat.le_refl _) P1)
      go_roundw
      case rel => exact ⟨a + 20, d1, hlt, by go_num, by go_num, Lib.hid h1, Lib.hid hf.1, Lib.hid hf.2, Lib.hid hp, Lib.hid S2⟩
      case measure => simp [intOf]; omega
    · have hc := Lib.hid (fun (A B : Int) (hA : A = (a : Nat)) (hB : B = (d.size : Nat)) => Hins.out wr a d.size A B dk HZ.out S1.out hA hB had (by rw [HZ.out]; exact Nat.le_refl _) HG.out)
      rw [HZ.out] at hc
      clear S1
      have t1 : ¬ (a : Int) + 20 ≤ (d.size : Int) := by omega
      go_wp2_with (go_at_call 42; refine (hc.out _ _ rfl rfl).mono ?_; rintro e w1 ⟨rfl, d1, P1, Q1, S2⟩)
      have hch : Chain (rk tb) 20 d.size d1 0 := by
        have h := front_last (d' := d1) HF.out (by rw [HZ.out]; exact had) (by rw [HZ.out]; omega) HG.out (by rw [HZ.out]; exact P1) (by rw [HZ.out]; exact Q1)
        rw [HZ.out] at h
        exact h
      have h1 := P1.1.trans HZ.out
      have hp := permIn_trans _ _ _ _ _ HP.out (permIn_mono dk d1 a d.size 0 d.size (Nat.zero_le _) (Nat.le_refl _) (by rw [HZ.out]; exact Nat.le_refl _) P1)
      have Hch := Lib.hid hch
      have H1 := Lib.hid h1
      have Hp := Lib.hid hp
      have S3 := Lib.hid S2
      clear hc HF HG HP P1 Q1 S2 hch h1 hp S0 HT
      go_wp2_with fail
      go_loopw [6] (fun u wr => ∃ (bs : Nat) (dk : Array Tg), 0 < bs ∧ u = .int .i64 bs ∧ Hid (dk.size = d.size) ∧ Hid (Chain (rk tb) bs d.size dk 0) ∧ Hid (PermIn 0 d.size d dk) ∧ Hid (SW encT w bk off dk wr)) (fun u _ => d.size - (intOf u).toNat)
      case atStart => exact ⟨20, d1, by omega, rfl, H1, Hch, Hp, S3⟩
      case round =>
        clear H1 Hch Hp S3
        obtain ⟨bs, dk, hbs, rfl, HZ, HK, HP, S1⟩ := hrel
        by_cases hlt2 : bs < d.size
        · go_wp2_with fail
          go_loopw [7, 8] (fun u v wr => ∃ (a : Nat) (dj : Array Tg), a ≤ d.size ∧ u = .int .i64 a ∧ v = .int .i64 (a + 2 * bs : Nat) ∧ Hid (dj.size = d.size) ∧ Hid (Front (rk tb) (2 * bs) dj a) ∧ Hid (Chain (rk tb) bs d.size dj a) ∧ Hid (PermIn 0 d.size d dj) ∧ Hid (SW encT w bk off dj wr)) (fun u _ _ => d.size - (intOf u).toNat)
          case atStart => exact ⟨0, dk, Nat.zero_le _, rfl, by congr 1 <;> omega, HZ, Lib.hid .none, HK, HP, S1⟩
          case round =>
            clear HZ HK HP S1
            obtain ⟨a, dj, had2, rfl, rfl, HZ, HF, HK, HP, S1⟩ := hrel
            by_cases hlt3 : a + 2 * bs ≤ d.size
            · obtain ⟨q1, q2, q3⟩ := blocks_tags (q := a + 2 * bs) (by omega) (by omega) HK.out
              have hc := Lib.hid (fun (A M B : Int) (hA : A = (a : Nat)) (hM : M = (a + bs : Nat)) (hB : B = (a + 2 * bs : Nat)) => Hsym.out a (a + bs) (a + 2 * bs) A M B dj _ (by omega) hA hM hB (by omega) (by omega) hlt3 HZ.out S1.out q1 q2 q3)
              clear S1 q1 q2 q3
              have t1 : (a : Int) + 2 * (bs : Int) ≤ (d.size : Int) := by omega
              go_wp2_with (go_at_call 52; refine (hc.out _ _ _ rfl (by simp) (by simp)).mono ?_; rintro e w1 ⟨rfl, d2, M2, S2⟩)
              have hf := blocks_two (by rw [HZ.out]; exact Nat.le_refl _) hlt3 hbs HF.out HK.out M2
              have h1 := M2.1.1.trans HZ.out
              have hp := permIn_trans _ _ _ _ _ HP.out (permIn_mono dj d2 a (a + 2 * bs) 0 d.size (Nat.zero_le _) hlt3 (by rw [HZ.out]; exact Nat.le_refl _) M2.1)
              go_roundw
              case rel => exact ⟨a + 2 * bs, d2, hlt3, by first | rfl | (congr 1; omega), by congr 1 <;> omega, Lib.hid h1, Lib.hid hf.1, Lib.hid hf.2, Lib.hid hp, Lib.hid S2⟩
              case measure => simp [intOf]; omega
            · have t1 : ¬ (a : Int) + 2 * (bs : Int) ≤ (d.size : Int) := by omega
              by_cases hm : a + bs < d.size
              · obtain ⟨q1, q2, q3⟩ := blocks_tags (q := d.size) (by omega) hm HK.out
                have hc := Lib.hid (fun (A M B : Int) (hA : A = (a : Nat)) (hM : M = (a + bs : Nat)) (hB : B = (d.size : Nat)) => Hsym.out a (a + bs) d.size A M B dj _ (by omega) hA hM hB (by omega) hm (Nat.le_refl _) HZ.out S1.out q1 q2 q3)
                clear S1 q1 q2 q3
                have t2 : (a : Int) + (bs : Int) < (d.size : Int) := by omega
                go_wp2_with (go_at_call 52; refine (hc.out _ _ _ rfl (by simp) rfl).mono ?_; rintro e w1 ⟨rfl, d2, M2, S2⟩)
                have hch := blocks_last (by rw [HZ.out]; exact Nat.le_refl _) (by omega) hm HF.out HK.out M2
                have h1 := M2.1.1.trans HZ.out
                have hp := permIn_trans _ _ _ _ _ HP.out (permIn_mono dj d2 a d.size 0 d.size (Nat.zero_le _) (Nat.le_refl _) (by rw [HZ.out]; exact Nat.le_refl _) M2.1)
                go_roundw
                case rel => exact ⟨2 * bs, d2, by omega, by congr 1 <;> omega, Lib.hid h1, Lib.hid hch, Lib.hid hp, Lib.hid S2⟩
                case measure => simp [intOf]; omega
              · have t2 : ¬ (a : Int) + (bs : Int) < (d.size : Int) := by omega
                have hch := Lib.hid (blocks_rest had2 (by omega) HF.out HK.out)
                clear HF HK
                go_wp2_with fail
                go_roundw
                case rel => exact ⟨2 * bs, dj, by omega, by congr 1 <;> omega, HZ, hch, HP, S1⟩
                case measure => simp [intOf]; omega
        · have fin := Lib.hid (HK.out.whole (by omega))
          clear HK
          go_wp2
          go_end0
          exact ⟨rfl, dk, HP.out, fin.out, S1.out⟩

end Go.Proofs.Ytpnlindmcomikaa
