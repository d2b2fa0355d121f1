/-
  slices.pdqsortOrdered at float64. No statement is proved here.
-/
import Derived.Test.YtlibakmllogcdaaFsPdqLaw
namespace Go.Proofs.Ytlibakmllogcdaa
open Go.RowKit Go.Shelf Go.Sort Go.Lib

/-- What a sort of [a, b) hands back. -/
def PdqPost (w0 : World) (bk off n a b : Nat) (d : Array Nat) (e : Ending) (w' : World) : Prop :=
  e = .returned (.tuple #[]) ∧ ∃ d', PermIn a b d d' ∧ SortedIn ltF a b d' ∧ At w0 bk off n d' w'
/-- The contract of slices.pdqsortOrdered for parts of at most N. -/
def PdqAt (w0 : World) (bk off cap n N : Nat) : Prop :=
  ∀ (a b l : Nat) (A B C : Int) (d : Array Nat) (w : World), b - a ≤ N → A = a → B = b → C = l → a ≤ b → b ≤ n → l ≤ 1000 → At w0 bk off n d w → Go.Sort.Below ltF a b d →
    Calls Try.prog 32 #[.slice (some ⟨bk, off, none⟩) n cap, .int .i64 A, .int .i64 B, .int .i64 C] w (PdqPost w0 bk off n a b d)

set_option maxHeartbeats 16000000 in
set_option maxRecDepth 100000 in
theorem pdq_step (w0 w : World) (bk off cap n a0 b0 l0 : Nat) (d : Array Nat) (S : At w0 bk off n d w) (hab0 : a0 ≤ b0) (hb0 : b0 ≤ n) (hl0 : l0 ≤ 1000) (hn : n < 1152921504606846976) (hbel0 : Go.Sort.Below ltF a0 b0 d) (IH : ∀ N, N < b0 - a0 → PdqAt w0 bk off cap n N) :
    Calls Try.prog 32 #[.slice (some ⟨bk, off, none⟩) n cap, .int .i64 a0, .int .i64 b0, .int .i64 l0] w (PdqPost w0 bk off n a0 b0 d) := by
  have mixed : Try.prog.follows .mixedOrders = true := by kernel_rfl
  have hst := storeF
  have S0 := Lib.hid S
  have HB0 := Lib.hid hbel0
  have HI := Lib.hid IH
  clear S hbel0 IH
  go_enter Try.func32, Try.ntmps32
  go_wp2_with fail
  go_loopg [1, 2, 3, 8, 9] (b0 + 1) (fun g ua ub ul uw up wr => ∃ (a b l : Nat) (wb wp : Bool) (dk : Array Nat), a0 ≤ a ∧ a ≤ b ∧ b ≤ b0 ∧ b - a < g ∧ l ≤ 1000 ∧ ua = .int .i64 a ∧ ub = .int .i64 b ∧ ul = .int .i64 l ∧ uw = .bool wb ∧ up = .bool wp ∧ Hid (Rest a0 b0 a b d dk) ∧ Hid (Go.Sort.Below ltF a b dk) ∧ Hid (At w0 bk off n dk wr))
  case atStart => exact ⟨a0, b0, l0, true, true, d, by omega, hab0, by omega, by omega, hl0, rfl, rfl, rfl, rfl, rfl, Lib.hid (fun d' p s => ⟨p, s⟩), HB0, S0⟩
  case round =>
    clear S0 HB0
    obtain ⟨a, b, l, wb, wp, dk, ha0, hab, hbb, hg, hl, rfl, rfl, rfl, rfl, rfl, HR, HW, S1⟩ := hrel
    obtain ⟨L, hL⟩ : ∃ L, L = b - a := ⟨_, rfl⟩
    have eL : (b : Int) - (a : Int) = (L : Int) := by omega
    have hLb : a + L = b := by omega
    clear hL
    have hbn : b ≤ n := by omega
    by_cases h12 : L ≤ 12
    · have g1 : (L : Int) ≤ 12 := by omega
      have hc := Lib.hid (fun (A B : Int) (hA : A = (a : Nat)) (hB : B = (b : Nat)) => fsIns_calls w0 wr bk off cap n a b A B dk S1.out hA hB hab hbn (by omega))
      clear S1
      go_wp2_with (go_at_call 44; refine (hc.out _ _ rfl rfl).mono ?_; rintro e w2 ⟨rfl, d2, P2, Q2, S2⟩)
      have fin := Lib.hid (HR.out d2 P2 Q2)
      have S3 := Lib.hid S2
      clear P2 Q2 S2
      first | go_end0 | go_ret | refine bodyPost_ret (results_none rfl _ _ _) rfl ?_
      exact ⟨rfl, d2, fin.out.1, fin.out.2, S3.out⟩
    · have g1 : ¬ (L : Int) ≤ 12 := by omega
      by_cases hl0' : l = 0
      · have g2 : ((l : Int) == 0) = true := by rw [beq_iff_eq]; omega
        have hc := Lib.hid (fun (A B : Int) (hA : A = (a : Nat)) (hB : B = (b : Nat)) => fsHeap_calls w0 wr bk off cap n a b A B dk S1.out hA hB (by omega) hbn hn)
        clear S1
        subst hl0'
        go_wp2_with (go_at_call 45; refine (hc.out _ _ rfl rfl).mono ?_; rintro e w2 ⟨rfl, d2, P2, Q2, S2⟩)
        have fin := Lib.hid (HR.out d2 P2 Q2)
        have S3 := Lib.hid S2
        clear P2 Q2 S2
        first | go_end0 | go_ret | refine bodyPost_ret (results_none rfl _ _ _) rfl ?_
        exact ⟨rfl, d2, fin.out.1, fin.out.2, S3.out⟩
      · have g2 : ((l : Int) == 0) = false := by rw [beq_eq_false_iff_ne]; omega
        have hdk : Hid (b ≤ dk.size) := Lib.hid (by rw [S1.out.size]; exact hbn)
        go_upto_if 35 with fail
        go_cut [3] from 19 to 133 (fun u wx => ∃ (l' : Nat) (d2 : Array Nat), l' ≤ 1000 ∧ u = .int .i64 l' ∧ Hid (PermIn a b dk d2) ∧ Hid (At w0 bk off n d2 wx))
        case first =>
          cases wb with
          | true =>
            go_wp2
            go_meet
            case rel => exact ⟨l, dk, hl, rfl, Lib.hid (permIn_refl _ _ _), S1⟩
          | false =>
            have hc := Lib.hid (fun (A B : Int) (hA : A = (a : Nat)) (hB : B = (b : Nat)) => fsBreak_calls w0 wr bk off cap n a b A B dk S1.out hA hB (by omega) hbn hn)
            clear S1
            go_wp2_with (go_at_call 46; refine (hc.out _ _ rfl rfl).mono ?_; rintro e w2 ⟨rfl, d2, P2, S2⟩)
            have P3 := Lib.hid P2
            have S3 := Lib.hid S2
            clear P2 S2
            go_wp2
            go_meet
            case rel => exact ⟨l - 1, d2, by omega, by congr 1 <;> omega, P3, S3⟩
        case rest =>
        obtain ⟨l', d2, hl', rfl, HP2, S2⟩ := hcut
        clear S1 g2 hl0'
        generalize wc = w2 at S2 ⊢
        have hc := Lib.hid (fun (A B : Int) (hA : A = (a : Nat)) (hB : B = (b : Nat)) => fsPivot_calls w0 w2 bk off cap n a b A B d2 S2.out hA hB (by omega) hbn hn)
        clear S2
        go_wp2_with fail
        refine (hc.out _ _ rfl rfl).mono ?_
        rintro e w3 ⟨x, h, rfl, hx1, hx2, hh, S3⟩
        have S4 := Lib.hid S3
        clear S3 hc
        go_upto_if 50 with fail
        go_cut [11, 12] from 19 to 133 (fun u v wx => ∃ (x' : Nat) (h' : Int) (d3 : Array Nat), a ≤ x' ∧ x' < b ∧ u = .int .i64 x' ∧ v = .int .i64 h' ∧ Hid (PermIn a b d2 d3) ∧ Hid (At w0 bk off n d3 wx))
        case first =>
          by_cases hh2 : h = 2
          · have g2 : (h == 2) = true := by rw [beq_iff_eq]; exact hh2
            have hc := Lib.hid (fun (A B : Int) (hA : A = (a : Nat)) (hB : B = (b : Nat)) => fsRev_calls w0 w3 bk off cap n a b A B d2 S4.out hA hB (by omega) hbn (by omega))
            clear S4 hh
            subst hh2
            go_wp2_with (go_at_call 48; refine (hc.out _ _ rfl rfl).mono ?_; rintro e w4 ⟨rfl, d3, P3, S3⟩)
            have P4 := Lib.hid P3
            have S5 := Lib.hid S3
            clear P3 S3
            go_wp2
            go_meet
            case rel => exact ⟨b - 1 - (x - a), 1, d3, by omega, by omega, by congr 1 <;> omega, rfl, P4, S5⟩
          · have g2 : (h == 2) = false := by rw [beq_eq_false_iff_ne]; exact hh2
            go_wp2
            go_meet
            case rel => exact ⟨x, h, d2, hx1, hx2, rfl, rfl, Lib.hid (permIn_refl _ _ _), S4⟩
        case rest =>
        obtain ⟨x', h', d3, hx1', hx2', rfl, rfl, HP3, S5⟩ := hcut
        clear S4 hh hx1 hx2
        generalize wc = w5 at S5 ⊢
        go_upto_region 15 with fail
        go_cut [68] from 19 to 133 (fun c wx => (∃ B : Bool, c = .bool B) ∧ w5 = wx)
        case first =>
          cases wb with
          | false =>
            go_wp2_with fail
            go_meet
            case rel => exact ⟨⟨false, rfl⟩, rfl⟩
          | true =>
            cases wp with
            | false =>
              go_wp2_with fail
              go_meet
              case rel => exact ⟨⟨false, rfl⟩, rfl⟩
            | true =>
              go_wp2_with fail
              go_meet
              case rel => exact ⟨⟨_, rfl⟩, rfl⟩
        case rest =>
        obtain ⟨⟨B1, rfl⟩, rfl⟩ := hcut
        go_upto_if 68 with fail
        go_cut [11] from 19 to 133 (fun u wx => u = .int .i64 (x' : Nat) ∧ ∃ d4, Hid (PermIn a b d3 d4) ∧ Hid (At w0 bk off n d4 wx))
        case first =>
          cases B1 with
          | false =>
            go_wp2
            go_meet
            case rel => exact ⟨rfl, d3, Lib.hid (permIn_refl _ _ _), S5⟩
          | true =>
            have HP := permIn_trans _ _ _ _ _ HP2.out HP3.out
            have hc := Lib.hid (fun (A B : Int) (hA : A = (a : Nat)) (hB : B = (b : Nat)) => fsPartial_calls w0 w5 bk off cap n a b A B d3 S5.out hA hB (by omega) hbn hn (low_perm hdk.out HW.out HP))
            have HPx := Lib.hid HP
            clear S5 HP
            go_wp2_with fail
            refine (hc.out _ _ rfl rfl).mono ?_
            rintro e w6 ⟨r, d4, rfl, P4, Q4, S6⟩
            have P5 := Lib.hid P4
            have Q5 := Lib.hid Q4
            have S7 := Lib.hid S6
            clear P4 Q4 S6 hc
            cases r with
            | true =>
              go_wp2
              first | go_end0 | go_ret | refine bodyPost_ret (results_none rfl _ _ _) rfl ?_
              obtain ⟨f1, f2⟩ := HR.out d4 (permIn_trans _ _ _ _ _ HPx.out P5.out) (by first | exact Q5.out rfl | exact Q5.out trivial)
              exact ⟨rfl, d4, f1, f2, S7.out⟩
            | false =>
              go_wp2
              go_meet
              case rel => exact ⟨rfl, d4, P5, S7⟩
        case rest =>
        obtain ⟨rfl, d4, HP4, S6⟩ := hcut
        clear S5
        generalize wc = w6 at S6 ⊢
        have HP5 := Lib.hid (permIn_trans _ _ _ _ _ (permIn_trans _ _ _ _ _ HP2.out HP3.out) HP4.out)
        have HW4 := Lib.hid (low_perm hdk.out HW.out HP5.out)
        have HR4 := Lib.hid (HR.out.perm HP5.out)
        have hd4 : Hid (b ≤ d4.size) := Lib.hid (by rw [S6.out.size]; exact hbn)
        clear HP2 HP3 HP4 HP5 HR HW hdk
        go_upto_region 17 with fail
        go_cut [87] from 19 to 133 (fun c wx => ∃ B : Bool, c = .bool B ∧ Hid (B = true → 0 < a ∧ ltF d4[a - 1]! d4[x']! = false) ∧ Hid (At w0 bk off n d4 wx))
        case first =>
          by_cases ha : 0 < a
          · obtain ⟨p, rfl⟩ : ∃ p, a = p + 1 := ⟨a - 1, by omega⟩
            have g3 : decide ((0 : Int) < (p : Int) + 1) = true := decide_eq_true (by omega)
            have g4 : decide (0 < p + 1) = true := decide_eq_true (by omega)
            have k1 : p < n := by omega
            have k2 : x' < n := by omega
            have c1 := S6.out.cell (p) (by omega)
            have c2 := S6.out.cell (x') (by omega)
            cases hlv : ltF d4[p]! d4[x']! with
            | true =>
              have hl := Lib.hid (lessF_quiet w6 _ _ hlv)
              have HL := Lib.hid hlv
              clear hlv
              generalize d4[p]! = x at c1 hl
              generalize d4[x']! = y at c2 hl
              go_wp2_with fail
              go_quiet ((go_at_call 50; exact hl.out _))
              have S7 := Lib.hid (S6.out.drewN nq)
              clear c1 c2 hl S6
              generalize w6.drewN nq = w7 at S7 ⊢
              go_wp2
              go_meet
              case rel => exact ⟨false, rfl, Lib.hid (fun h => by cases h), S7⟩
            | false =>
              have hl := Lib.hid (lessF_quiet w6 _ _ hlv)
              have HL := Lib.hid hlv
              clear hlv
              generalize d4[p]! = x at c1 hl
              generalize d4[x']! = y at c2 hl
              go_wp2_with fail
              go_quiet ((go_at_call 50; exact hl.out _))
              have S7 := Lib.hid (S6.out.drewN nq)
              clear c1 c2 hl S6
              generalize w6.drewN nq = w7 at S7 ⊢
              go_wp2
              go_meet
              case rel => exact ⟨true, rfl, Lib.hid (fun _ => ⟨by omega, HL.out⟩), S7⟩
          · obtain rfl : a = 0 := by omega
            go_wp2_with fail
            go_quiet (fail)
            have S7 := Lib.hid (S6.out.drewN nq)
            clear S6
            generalize w6.drewN nq = w7 at S7 ⊢
            go_wp2
            go_meet
            case rel => exact ⟨false, rfl, Lib.hid (fun h => by cases h), S7⟩
        case rest =>
        obtain ⟨B2, rfl, HQ, S7⟩ := hcut
        clear S6
        generalize wc = w7 at S7 ⊢
        cases B2 with
        | true =>
          obtain ⟨hapos, hq⟩ := HQ.out rfl
          have hlow : Hid (∀ k, a ≤ k → k < b → ltF d4[k]! d4[x']! = false) := Lib.hid (fun k hk hkb => swo_ltF.ntrans _ _ _ (HW4.out.elim (fun h => absurd h (by omega)) (fun h => h k hk hkb)) hq)
          have hc := Lib.hid (fun (A B C : Int) (hA : A = (a : Nat)) (hB : B = (b : Nat)) (hC : C = (x' : Nat)) => fsPartEq_calls w0 w7 bk off cap n a b x' A B C d4 S7.out hA hB hC hx1' hx2' hbn (by omega))
          clear S7 hq HQ
          go_wp2_with fail
          refine (hc.out _ _ _ rfl rfl rfl).mono ?_
          rintro e w8 ⟨mid, d5, rfl, hm1, hm2, P5, q1, q2, S8⟩
          have HE := Lib.hid (HR4.out.equal P5 hm1 (by rw [S8.size]; exact hbn) (permIn_all d4 d5 a b (fun y => ltF y d4[x']! = false) hd4.out P5 hlow.out) q1)
          have S9 := Lib.hid S8
          clear P5 q1 q2 S8 hc
          go_wp2
          go_roundg (b - mid + 1)
          case measure => omega
          case rel => exact ⟨mid, b, l', wb, wp, d5, by omega, by omega, by omega, by omega, hl', rfl, rfl, rfl, rfl, rfl, Lib.hid HE.out.1, Lib.hid HE.out.2, S9⟩
        | false =>
          have hc := Lib.hid (fun (A B C : Int) (hA : A = (a : Nat)) (hB : B = (b : Nat)) (hC : C = (x' : Nat)) => fsPart_calls w0 w7 bk off cap n a b x' A B C d4 S7.out hA hB hC hx1' hx2' hbn (by omega))
          clear S7 HQ
          go_wp2_with fail
          refine (hc.out _ _ _ rfl rfl rfl).mono ?_
          rintro e w8 ⟨mid, al, d5, rfl, hm1, hm2, P5, qm, q1, q2, S8⟩
          have hd5 : b ≤ d5.size := by rw [S8.size]; exact hbn
          have HW5 := Lib.hid (low_perm hd4.out HW4.out P5)
          have HE := Lib.hid (fun d6 p1 s1 => HR4.out.left (d1 := d6) P5 hm1 hm2 hd5 qm q1 q2 p1 s1)
          have HF := Lib.hid (fun d6 p1 s1 => HR4.out.right (d1 := d6) P5 hm1 hm2 hd5 qm q1 q2 p1 s1 HW5.out)
          have HWl : Hid (Go.Sort.Below ltF a mid d5) := Lib.hid (HW5.out.elim Or.inl (fun h => Or.inr (fun k hk hkm => h k hk (by omega))))
          have HWr : Hid (Go.Sort.Below ltF (mid + 1) b d5) := Lib.hid (Or.inr (fun k hk hkb => by rw [Nat.add_sub_cancel, qm]; exact q2 k (by omega) hkb))
          have hcl := Lib.hid (fun (A B C : Int) (hA : A = (a : Nat)) (hB : B = (mid : Nat)) (hC : C = (l' : Nat)) => HI.out (mid - a) (by omega) a mid l' A B C d5 w8 (Nat.le_refl _) hA hB hC hm1 (by omega) hl' S8 HWl.out)
          have hcr := Lib.hid (fun (A B C : Int) (hA : A = (mid + 1 : Nat)) (hB : B = (b : Nat)) (hC : C = (l' : Nat)) => HI.out (b - (mid + 1)) (by omega) (mid + 1) b l' A B C d5 w8 (Nat.le_refl _) hA hB hC (by omega) hbn hl' S8 HWr.out)
          clear P5 qm q1 q2 S8 hc hd5
          by_cases hlr : mid - a < b - mid
          · have g3 : (mid : Int) - (a : Int) < (b : Int) - (mid : Int) := by omega
            go_wp2_with (go_at_call 32; refine (hcl.out _ _ _ rfl rfl rfl).mono ?_; rintro e w9 ⟨rfl, d6, P6, Q6, S9⟩)
            have HG := Lib.hid (HE.out d6 P6 Q6)
            have SA := Lib.hid S9
            clear P6 Q6 S9
            go_roundg (b - (mid + 1) + 1)
            case measure => omega
            case rel => exact ⟨mid + 1, b, l', _, al, d6, by omega, by omega, by omega, by omega, hl', by go_num, rfl, rfl, rfl, rfl, Lib.hid HG.out.1, Lib.hid HG.out.2, SA⟩
          · have g3 : ¬ (mid : Int) - (a : Int) < (b : Int) - (mid : Int) := by omega
            go_wp2_with (go_at_call 32; refine (hcr.out _ _ _ (by simp) rfl rfl).mono ?_; rintro e w9 ⟨rfl, d6, P6, Q6, S9⟩)
            have HG := Lib.hid (HF.out d6 P6 Q6)
            have SA := Lib.hid S9
            clear P6 Q6 S9
            go_roundg (mid - a + 1)
            case measure => omega
            case rel => exact ⟨a, mid, l', _, al, d6, by omega, by omega, by omega, by omega, hl', rfl, rfl, rfl, rfl, rfl, Lib.hid HG.out.1, Lib.hid HG.out.2, SA⟩

/-- slices.pdqsortOrdered at float64 -/
theorem pdq_all (w0 : World) (bk off cap n : Nat) (hn : n < 1152921504606846976) : ∀ N, PdqAt w0 bk off cap n N := by
  intro N
  induction N using Nat.strongRecOn with
  | ind N ih =>
    intro a b l A B C d w hN hA hB hC hab hb hl S hbel
    subst hA hB hC
    exact pdq_step w0 w bk off cap n a b l d S hab hb hl hn hbel (fun M hM => ih M (by omega))

end Go.Proofs.Ytlibakmllogcdaa
