/-
  The contract of slices.symMergeCmpFunc by ranks: a stable merge. No statement is proved here.
-/
import Derived.Test.YtpnlindmcomikaaSymB
import Derived.Deep.Cut
namespace Go.Proofs.Ytpnlindmcomikaa
open Go.RowKit Go.Shelf Go.Sort Go.Lib

/-- The contract of a merge in n elements, of parts of at most N. -/
def SymAt (w0 : World) (bk off bx cap n N : Nat) (tb : List Int) : Prop :=
  ∀ (a m b : Nat) (A M B : Int) (d : Array Tg) (w : World), b - a ≤ N → A = a → M = m → B = b → a < m → m < b → b ≤ n → d.size = n → SW encT w0 bk off d w →
    SortedIn (lx (rk tb)) a m d → SortedIn (lx (rk tb)) m b d → Tags a m b d →
    Calls Try.prog 52 #[.slice (some ⟨bk, off, none⟩) n cap, .int .i64 A, .int .i64 M, .int .i64 B, .func (.func 34) #[] #[.pointer (some ⟨bx, 0, none⟩)]] w (SymPost tb w0 bk off a b d)

/-- Where the search of a merge may begin and end. -/
structure Ends (a m b mid s r : Nat) : Prop where
  h1 : a ≤ s
  h2 : s ≤ r
  h3 : r ≤ m
  h4 : mid + m ≤ s + b
  h5 : r ≤ mid
  h6 : s = a ∨ s + b = mid + m
  h7 : r = m ∨ r = mid

set_option maxHeartbeats 8000000 in
set_option maxRecDepth 100000 in
theorem sym_mid (w0 w : World) (bk off bx cap a m b : Nat) (tb : List Int) (d0 d : Array Tg) (R : Row1 encT w0 bk off d0) (hs : d.size = d0.size) (S : SW encT w0 bk off d w) (HC : CmpOk w0 bk off bx tb)
    (ham : a + 1 < m) (hmb : m + 1 < b) (hb : b ≤ d.size) (hsz : d.size < 4611686018427387904)
    (sA : SortedIn (lx (rk tb)) a m d) (sB : SortedIn (lx (rk tb)) m b d) (hT : Tags a m b d) (IH : SymAt w0 bk off bx cap d.size (b - a - 1) tb) :
    Calls Try.prog 52 #[.slice (some ⟨bk, off, none⟩) d.size cap, .int .i64 a, .int .i64 m, .int .i64 b, .func (.func 34) #[] #[.pointer (some ⟨bx, 0, none⟩)]] w (SymPost tb w0 bk off a b d) := by
  have mixed : Try.prog.follows .mixedOrders = true := by kernel_rfl
  have eg : ∀ args w, (callFunc 34 args).run Try.prog w = .ok (.enter 34 args) w := enters_of Try.func34 (by kernel_rfl) rfl
  have t1 : ((m : Int) - (a : Int) == 1) = false := by simp; omega
  have t2 : ((b : Int) - (m : Int) == 1) = false := by simp; omega
  have Hs := Lib.hid hs
  have HS := Lib.hid S
  have HA := Lib.hid sA
  have HB := Lib.hid sB
  have HT := Lib.hid hT
  have HI := Lib.hid IH
  obtain ⟨mid, hmid⟩ : ∃ k, k = (a + b) / 2 := ⟨_, rfl⟩
  have emid : ((a : Int) + (b : Int)) / 2 = (mid : Int) := by omega
  have hmid1 : 2 * mid ≤ a + b := by omega
  have hmid2 : a + b ≤ 2 * mid + 1 := by omega
  clear hs S sA sB hT IH hmid
  go_enter Try.func52, Try.ntmps52
  go_upto_if 140 with fail
  go_cut [20, 21] from 25 (fun u v wx => ∃ s0 r0 : Nat, u = .int .i64 s0 ∧ v = .int .i64 r0 ∧ w = wx ∧ Hid (Ends a m b mid s0 r0))
  case first => as_aux_lemma =>
      by_cases hmm : mid < m
      · go_wp2_with fail
        go_meet
        case rel => exact ⟨mid + m - b, mid, by congr 1; omega, rfl, rfl, Lib.hid ⟨by omega, by omega, by omega, by omega, by omega, Or.inr (by omega), Or.inr rfl⟩⟩
      · go_wp2_with fail
        go_meet
        case rel => exact ⟨a, m, rfl, rfl, rfl, Lib.hid ⟨by omega, by omega, by omega, by omega, by omega, Or.inl rfl, Or.inl rfl⟩⟩
  case rest =>
    obtain ⟨s0, r0, rfl, rfl, rfl, HE⟩ := hcut
    have g1 := HE.out.h1
    have g2 := HE.out.h2
    have g3 := HE.out.h3
    have g4 := HE.out.h4
    have g5 := HE.out.h5
    go_wp2_with fail
    go_loopw [20, 21] (fun u v wr => ∃ s r q : Nat, s0 ≤ s ∧ s ≤ r ∧ r ≤ r0 ∧ u = .int .i64 s ∧ v = .int .i64 r ∧ wr = w.drewN q ∧ Hid ((s0 < s → ltR (rk tb) d[mid + m - s]! d[s - 1]! = false) ∧ (r < r0 → ltR (rk tb) d[mid + m - 1 - r]! d[r]! = true))) (fun u v _ => (intOf v).toNat - (intOf u).toNat)
    case atStart => exact ⟨s0, r0, 0, Nat.le_refl _, g2, Nat.le_refl _, rfl, rfl, rfl, Lib.hid ⟨fun h => by omega, fun h => by omega⟩⟩
    case round =>
      obtain ⟨s, r, q, hs0, hsr, hr0, rfl, rfl, rfl, H⟩ := hrel
      by_cases hlt : s < r
      · obtain ⟨c, hc0⟩ : ∃ h, h = (s + r) / 2 := ⟨_, rfl⟩
        have ec : ((s : Int) + (r : Int)) / 2 = (c : Int) := by omega
        have hc1 : s ≤ c := by omega
        have hc2 : c < r := by omega
        obtain ⟨p, hp⟩ : ∃ p, p = mid + m - 1 - c := ⟨_, rfl⟩
        have ep : (mid : Int) + (m : Int) - 1 - (c : Int) = (p : Int) := by omega
        have hpd : p < d.size := by omega
        have hcd : c < d.size := by omega
        have hp1 : mid + m - 1 - c = p := by omega
        have hp2 : mid + m - (c + 1) = p := by omega
        clear hc0 hp
        have c1 := swT HS.out R Hs.out p hpd
        have c2 := swT HS.out R Hs.out c hcd
        have hc := Lib.hid (HC.quiet HS.out q (d[p]!).1 (d[c]!).1)
        cases hlv : ltR (rk tb) d[p]! d[c]! with
        | false => as_aux_lemma =>
            have hv := ck_of_not hlv
            have HL := Lib.hid hlv
            clear hlv
            generalize ck tb (d[p]!).1 (d[c]!).1 = cc at hc hv
            have hd : decide (cc < 0) = false := by simpa using hv
            generalize (d[p]!).1 = x at c1 hc
            generalize (d[c]!).1 = y at c2 hc
            go_wp2_with fail
            go_quiet ((go_at_call 34; exact hc.out _))
            go_wp2
            go_roundw
            case rel => exact ⟨c + 1, r, q + nq, by omega, by omega, hr0, by go_num, rfl, by first | rfl | exact World.drewN_drewN _ _ _, Lib.hid ⟨fun _ => by rw [hp2]; exact HL.out, H.out.2⟩⟩
            case measure => simp [intOf]; omega
        | true => as_aux_lemma =>
            have hv := ck_of_lt hlv
            have HL := Lib.hid hlv
            clear hlv
            generalize ck tb (d[p]!).1 (d[c]!).1 = cc at hc hv
            have hd : decide (cc < 0) = true := by simpa using hv
            generalize (d[p]!).1 = x at c1 hc
            generalize (d[c]!).1 = y at c2 hc
            go_wp2_with fail
            go_quiet ((go_at_call 34; exact hc.out _))
            go_wp2
            go_roundw
            case rel => exact ⟨s, c, q + nq, hs0, by omega, by omega, rfl, rfl, by first | rfl | exact World.drewN_drewN _ _ _, Lib.hid ⟨H.out.1, fun _ => by rw [hp1]; exact HL.out⟩⟩
            case measure => simp [intOf]; omega
      · obtain rfl : r = s := by omega
        obtain ⟨e, he⟩ : ∃ e, e = mid + m - r := ⟨_, rfl⟩
        have ee : (mid : Int) + (m : Int) - (r : Int) = (e : Int) := by omega
        have he1 : m ≤ e := by omega
        have he2 : e ≤ b := by omega
        have hem : r + (e - m) = mid := by omega
        have har : a ≤ r := by omega
        have hrm : r ≤ m := by omega
        have hmm : m < e ↔ r < mid := by omega
        have hme : mid < e ↔ r < m := by omega
        have k1 : a < r → e < b → ltR (rk tb) d[e]! d[r - 1]! = false := fun h1 h2 => by
          have := H.out.1 (by rcases HE.out.h6 with h | h <;> omega)
          rw [← he] at this
          exact this
        have k2 : r < m → m < e → ltR (rk tb) d[e - 1]! d[r]! = true := fun h1 h2 => by
          have := H.out.2 (by rcases HE.out.h7 with h | h <;> omega)
          rw [show mid + m - 1 - r = e - 1 by omega] at this
          exact this
        have K1 := Lib.hid k1
        have K2 := Lib.hid k2
        have Hmm := Lib.hid hmm
        have Hme := Lib.hid hme
        have S0 := Lib.hid (HS.out.drewN q)
        clear k1 k2 hmm hme H he HS
        generalize w.drewN q = w1 at S0 ⊢
        have hrot := Lib.hid (fun (A M B : Int) (hA : A = (r : Nat)) (hM : M = (m : Nat)) (hB : B = (e : Nat)) (h1 : r < m) (h2 : m < e) => rotate_calls w0 w1 bk off cap r m e A M B d0 d (.func (.func 34) #[] #[.pointer (some ⟨bx, 0, none⟩)]) R Hs.out S0.out hA hM hB h1 h2 (by omega) hsz)
        obtain ⟨B1, hB1⟩ : ∃ B : Bool, B = decide (r < m ∧ m < e) := ⟨_, rfl⟩
        have HB1 := Lib.hid hB1
        clear hB1
        go_upto_region 39 with fail
        go_cut [24, 185] from 25 (fun u c wx => u = .int .i64 (e : Nat) ∧ c = .bool B1 ∧ w1 = wx)
        case first => as_aux_lemma =>
            by_cases h1 : r < m
            · by_cases h2 : m < e
              · go_wp2_with fail
                go_meet
                case rel => exact ⟨rfl, by rw [HB1.out, decide_eq_true ⟨h1, h2⟩], rfl⟩
              · go_wp2_with fail
                go_meet
                case rel => exact ⟨rfl, by rw [HB1.out, decide_eq_false (fun h => h2 h.2)], rfl⟩
            · go_wp2_with fail
              go_meet
              case rel => exact ⟨rfl, by rw [HB1.out, decide_eq_false (fun h => h1 h.1)], rfl⟩
        case rest =>
        obtain ⟨rfl, rfl, rfl⟩ := hcut
        go_upto_if 185 with fail
        go_cut [24] from 25 (fun u wx => u = .int .i64 (e : Nat) ∧ ∃ d1, Hid (Rot r m e d d1) ∧ Hid (SW encT w0 bk off d1 wx))
        case first => as_aux_lemma =>
            rcases Bool.eq_false_or_eq_true B1 with rfl | rfl
            · obtain ⟨h1, h2⟩ := of_decide_eq_true HB1.out.symm
              go_wp2_with (go_at_call 58; refine (hrot.out _ _ _ rfl rfl rfl h1 h2).mono ?_; rintro ex w2 ⟨rfl, d1, HR, S1⟩)
              go_meet
              case rel => exact ⟨rfl, d1, Lib.hid HR, Lib.hid S1⟩
            · have hX := of_decide_eq_false HB1.out.symm
              have HR : Hid (Rot r m e d d) := by
                by_cases h1 : r < m
                · have h2 : e = m := by omega
                  rw [h2]
                  exact Lib.hid (rot_right r m d)
                · have h2 : r = m := by omega
                  rw [h2]
                  exact Lib.hid (rot_left m e d)
              clear hX
              go_wp2_with fail
              go_meet
              case rel => exact ⟨rfl, d, HR, S0⟩
        case rest =>
          obtain ⟨rfl, d1, HR, S1⟩ := hcut
          have Sp := Lib.hid (HR.out.split (r := rk tb) har hrm he1 he2 HA.out HB.out HT.out K1.out K2.out)
          rw [hem] at Sp
          have hd1 := HR.out.size
          have Hd1 := Lib.hid hd1
          have P1 := Lib.hid (permIn_mono d d1 r e a b har he2 hb (HR.out.perm hrm he1 (by omega)))
          clear HR hrot S0 HA HB HT hd1
          have hleft := Lib.hid (fun (A M B : Int) (hA : A = (a : Nat)) (hM : M = (r : Nat)) (hB : B = (mid : Nat)) (h1 : a < r) (h2 : r < mid) => HI.out a r mid A M B d1 wc (by omega) hA hM hB h1 h2 (by omega) Hd1.out S1.out Sp.out.s1 Sp.out.s2 Sp.out.t1)
          obtain ⟨B2, hB2⟩ : ∃ B : Bool, B = decide (a < r ∧ r < mid) := ⟨_, rfl⟩
          have HB2 := Lib.hid hB2
          clear hB2
          generalize wc = w2 at S1 hleft ⊢
          go_upto_region 41 with fail
          go_cut [24, 199] from 25 (fun u c wx => u = .int .i64 (e : Nat) ∧ c = .bool B2 ∧ w2 = wx)
          case first => as_aux_lemma =>
              by_cases h1 : a < r
              · by_cases h2 : r < mid
                · go_wp2_with fail
                  go_meet
                  case rel => exact ⟨rfl, by rw [HB2.out, decide_eq_true ⟨h1, h2⟩], rfl⟩
                · go_wp2_with fail
                  go_meet
                  case rel => exact ⟨rfl, by rw [HB2.out, decide_eq_false (fun h => h2 h.2)], rfl⟩
              · go_wp2_with fail
                go_meet
                case rel => exact ⟨rfl, by rw [HB2.out, decide_eq_false (fun h => h1 h.1)], rfl⟩
          case rest =>
          obtain ⟨rfl, rfl, rfl⟩ := hcut
          go_upto_if 199 with fail
          go_cut [24] from 25 (fun u wx => u = .int .i64 (e : Nat) ∧ ∃ d2, Hid (PermIn a mid d1 d2) ∧ Hid (SortedIn (lx (rk tb)) a mid d2) ∧ Hid (SW encT w0 bk off d2 wx))
          case first => as_aux_lemma =>
              rcases Bool.eq_false_or_eq_true B2 with rfl | rfl
              · obtain ⟨h1, h2⟩ := of_decide_eq_true HB2.out.symm
                go_wp2_with (go_at_call 52; refine (hleft.out _ _ _ rfl rfl rfl h1 h2).mono ?_; rintro ex w3 ⟨rfl, d2, HM, S2⟩)
                go_meet
                case rel => exact ⟨rfl, d2, Lib.hid HM.1, Lib.hid HM.2, Lib.hid S2⟩
              · have hX := of_decide_eq_false HB2.out.symm
                have HQ : Hid (SortedIn (lx (rk tb)) a mid d1) := by
                  by_cases h1 : a < r
                  · have h2 : r = mid := by omega
                    have := Sp.out.s1
                    rw [h2] at this
                    exact Lib.hid this
                  · have h2 : r = a := by omega
                    have := Sp.out.s2
                    rw [h2] at this
                    exact Lib.hid this
                clear hX
                go_wp2_with fail
                go_meet
                case rel => exact ⟨rfl, d1, Lib.hid (permIn_refl _ _ _), HQ, S1⟩
          case rest =>
            obtain ⟨rfl, d2, HP2, HS2, S2⟩ := hcut
            generalize wc = w4 at S2 ⊢
            have hd2 := HP2.out.1.trans Hd1.out
            have Hd2 := Lib.hid hd2
            have same2 : ∀ i, mid ≤ i → d2[i]! = d1[i]! := fun i hi => HP2.out.2.1 i (Or.inr hi)
            have q3 : SortedIn (lx (rk tb)) mid e d2 := fun i j hi hij hj => by rw [same2 i hi, same2 j (by omega)]; exact Sp.out.s3 i j hi hij hj
            have q4 : SortedIn (lx (rk tb)) e b d2 := fun i j hi hij hj => by rw [same2 i (by omega), same2 j (by omega)]; exact Sp.out.s4 i j hi hij hj
            have qt : Tags mid e b d2 := fun i j hi hij hj hjb => by rw [same2 i hi, same2 j (by omega)]; exact Sp.out.t2 i j hi hij hj hjb
            have Q3 := Lib.hid q3
            have Q4 := Lib.hid q4
            have QT := Lib.hid qt
            have hright := Lib.hid (fun (A M B : Int) (hA : A = (mid : Nat)) (hM : M = (e : Nat)) (hB : B = (b : Nat)) (h1 : mid < e) (h2 : e < b) => HI.out mid e b A M B d2 w4 (by omega) hA hM hB h1 h2 hb Hd2.out S2.out Q3.out Q4.out QT.out)
            have fin := Lib.hid (fun d3 (p3 : PermIn mid b d2 d3) (s3 : SortedIn (lx (rk tb)) mid b d3) => halves (r := rk tb) (a := a) (mid := mid) (b := b) (d1 := d1) (by omega) (by omega) (by rw [Hd1.out]; exact hb) Sp.out.cross HP2.out HS2.out p3 s3)
            clear same2 q3 q4 qt hd2 S1 hleft
            by_cases h1 : mid < e
            · by_cases h2 : e < b
              · as_aux_lemma =>
                go_wp2_with (go_at_call 52; refine (hright.out _ _ _ rfl rfl rfl h1 h2).mono ?_; rintro ex w3 ⟨rfl, d3, HM, S3⟩)
                go_end0
                obtain ⟨p, s⟩ := fin.out d3 HM.1 HM.2
                exact ⟨rfl, d3, ⟨permIn_trans _ _ _ _ _ P1.out p, s⟩, S3⟩
              · as_aux_lemma =>
                have hrr : e = b := by omega
                have Hrr := Lib.hid hrr
                clear hrr
                go_wp2_with fail
                go_end0
                obtain ⟨p, s⟩ := fin.out d2 (permIn_refl _ _ _) (by have := Q3.out; rw [Hrr.out] at this; exact this)
                exact ⟨rfl, d2, ⟨permIn_trans _ _ _ _ _ P1.out p, s⟩, S2.out⟩
            · as_aux_lemma =>
              have hrr : e = mid := by omega
              have Hrr := Lib.hid hrr
              clear hrr
              go_wp2_with fail
              go_end0
              obtain ⟨p, s⟩ := fin.out d2 (permIn_refl _ _ _) (by have := Q4.out; rw [Hrr.out] at this; exact this)
              exact ⟨rfl, d2, ⟨permIn_trans _ _ _ _ _ P1.out p, s⟩, S2.out⟩

/-- slices.symMergeCmpFunc by ranks -/
theorem sym_all (w0 : World) (bk off bx cap : Nat) (tb : List Int) (d0 : Array Tg) (R : Row1 encT w0 bk off d0) (HC : CmpOk w0 bk off bx tb) (hsz : d0.size < 4611686018427387904) : ∀ N, SymAt w0 bk off bx cap d0.size N tb
  | 0 => fun a m b _ _ _ _ _ hN _ _ _ ham hmb => by omega
  | N + 1 => fun a m b A M B d w hN hA hM hB ham hmb hb hd S sA sB hT => by
    rw [← hd]
    rw [← hd] at hb hsz
    by_cases h1 : m = a + 1
    · exact sym_left w0 w bk off bx cap a m b A M B tb d0 d R hd S HC hA hM hB h1 hmb hb hsz sB hT
    · by_cases h2 : b = m + 1
      · exact sym_right w0 w bk off bx cap a m b A M B tb d0 d R hd S HC hA hM hB h2 (by omega) hb hsz sA hT
      · subst hA hM hB
        refine sym_mid w0 w bk off bx cap a m b tb d0 d R hd S HC (by omega) (by omega) hb hsz sA sB hT ?_
        have IH := sym_all w0 bk off bx cap tb d0 R HC (by rw [← hd]; exact hsz) N
        rw [← hd] at IH
        exact fun a' m' b' A' M' B' d' w' h' => IH a' m' b' A' M' B' d' w' (by omega)

end Go.Proofs.Ytpnlindmcomikaa
