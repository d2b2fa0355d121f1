/-
  slices.partialInsertionSortOrdered at float64. No statement is proved here.
-/
import Derived.Test.YtlibakmllogcdaaFloatKit
import Derived.Sort.LotA
import Derived.Deep.CutBlock
import Derived.Deep.LoopGhost
namespace Go.Proofs.Ytlibakmllogcdaa
open Go.RowKit Go.Shelf Go.Sort Go.Lib

theorem ins_begin {a p : Nat} {dk : Array Nat} (h : SortedIn ltF a (p + 1) dk) (hp : p + 1 < dk.size) : Ins ltF a p p (swp dk (p + 1) p) := by
  have g := swp_get dk (i := p + 1) (j := p) hp (by omega)
  refine ⟨fun x y hx hxy hy hne1 hne2 => ?_, fun y h1 h2 => by omega⟩
  rw [g, g, if_neg hne2, if_neg (by omega), if_neg hne1, if_neg (by omega)]
  exact h x y hx hxy (by omega)
theorem below_none {a b : Nat} {d : Array Nat} (h : Go.Sort.Below ltF a b d) (ha : 0 < a) (hab : a < b) : ltF d[a]! d[a - 1]! = false := by
  rcases h with h | h
  · omega
  · exact h a (Nat.le_refl _) hab
/-- What a partial insertion sort hands back. -/
def PartialPost (w0 : World) (bk off n a b : Nat) (d : Array Nat) (e : Ending) (w' : World) : Prop :=
  ∃ (r : Bool) (d' : Array Nat), e = .returned (.bool r) ∧ PermIn a b d d' ∧ (r = true → SortedIn ltF a b d') ∧ At w0 bk off n d' w'
theorem perm_trans {a b : Nat} {x y z : Array Nat} (h : PermIn a b x y) (k : PermIn a b y z) : PermIn a b x z := permIn_trans _ _ _ _ _ h k

set_option maxHeartbeats 4000000 in
set_option maxRecDepth 100000 in
theorem fsPartial_calls (w0 w : World) (bk off cap n a b : Nat) (A B : Int) (d : Array Nat) (S : At w0 bk off n d w) (hA : A = a) (hB : B = b) (hab : a + 12 < b) (hb : b ≤ n) (hn : n < 1152921504606846976) (hbel : Go.Sort.Below ltF a b d) :
    Calls Try.prog 49 #[.slice (some ⟨bk, off, none⟩) n cap, .int .i64 A, .int .i64 B] w (PartialPost w0 bk off n a b d) := by
  subst hA hB
  have mixed : Try.prog.follows .mixedOrders = true := by kernel_rfl
  have hst := storeF
  have S0 := Lib.hid S
  have HB := Lib.hid hbel
  have hds : Hid (b ≤ d.size) := Lib.hid (by rw [S.size]; exact hb)
  clear S hbel
  go_enter Try.func49, Try.ntmps49
  go_wp2_with fail
  go_loopg [7, 8] 5 (fun g u v wr => ∃ (i s : Nat) (dk : Array Nat), a < i ∧ i ≤ b ∧ s ≤ 5 ∧ 5 - s ≤ g ∧ u = .int .i64 i ∧ v = .int .i64 s ∧ Hid (SortedIn ltF a i dk) ∧ Hid (PermIn a b d dk) ∧ Hid (At w0 bk off n dk wr))
  case atStart => exact ⟨a + 1, 0, d, by omega, by omega, by omega, by omega, by go_num, rfl, Lib.hid (fun i j h1 h2 h3 => by omega), Lib.hid (permIn_refl _ _ _), S0⟩
  case round =>
    clear S0
    obtain ⟨i, s, dk, hai, hib, hs5, hg, rfl, rfl, HS, HP, S1⟩ := hrel
    by_cases hs : s < 5
    · have g5 : (s : Int) < 5 := by omega
      go_upto_block 2 with fail
      go_cut [7] from 13 to 132 (fun u wx => ∃ i' : Nat, i ≤ i' ∧ i' ≤ b ∧ u = .int .i64 i' ∧ Hid (SortedIn ltF a i' dk) ∧ Hid (At w0 bk off n dk wx))
      case first =>
        go_wp2_with fail
        go_loopg [7] (b - i) (fun g u wr2 => ∃ i' : Nat, i ≤ i' ∧ i' ≤ b ∧ b - i' ≤ g ∧ u = .int .i64 i' ∧ Hid (SortedIn ltF a i' dk) ∧ Hid (At w0 bk off n dk wr2))
        case atStart => exact ⟨i, Nat.le_refl _, hib, Nat.le_refl _, rfl, HS, S1⟩
        case round =>
          clear S1 HS
          obtain ⟨i', hi1, hi2, hg2, rfl, HS, SA⟩ := hrel
          by_cases hlt : i' < b
          · obtain ⟨p, rfl⟩ : ∃ p, i' = p + 1 := ⟨i' - 1, by omega⟩
            have g1 : decide ((p : Int) + 1 < (b : Int)) = true := decide_eq_true (by omega)
            have g2 : decide (p + 1 < b) = true := decide_eq_true hlt
            have k1 : p < n := by omega
            have k2 : p + 1 < n := by omega
            have c1 := SA.out.cell (p + 1) (by omega)
            have c2 := SA.out.cell (p) (by omega)
            cases hlv : ltF dk[p + 1]! dk[p]! with
            | true =>
              have hl := Lib.hid (lessF_quiet wr _ _ hlv)
              have HL := Lib.hid hlv
              clear hlv
              generalize dk[p + 1]! = x at c1 hl
              generalize dk[p]! = y at c2 hl
              go_wp2_with fail
              go_quiet ((go_at_call 50; exact hl.out _))
              have SB := Lib.hid (SA.out.drewN nq)
              clear c1 c2 hl SA
              generalize wr.drewN nq = wb at SB ⊢
              go_wp2
              go_meet
              case rel => exact ⟨p + 1, by omega, by omega, by first | rfl | go_num, HS, SB⟩
            | false =>
              have hl := Lib.hid (lessF_quiet wr _ _ hlv)
              have HL := Lib.hid hlv
              clear hlv
              generalize dk[p + 1]! = x at c1 hl
              generalize dk[p]! = y at c2 hl
              go_wp2_with fail
              go_quiet ((go_at_call 50; exact hl.out _))
              have SB := Lib.hid (SA.out.drewN nq)
              clear c1 c2 hl SA
              generalize wr.drewN nq = wb at SB ⊢
              have HS2 := Lib.hid (SortedIn.snoc swo_ltF HS.out HL.out)
              go_wp2
              go_roundg (b - (p + 1 + 1))
              case measure => omega
              case rel => exact ⟨p + 1 + 1, by omega, by omega, by omega, by go_num, HS2, SB⟩
          · have g1 : decide ((i' : Int) < (b : Int)) = false := decide_eq_false (by omega)
            have g2 : decide (i' < b) = false := decide_eq_false hlt
            go_wp2_with fail
            go_quiet (fail)
            have SB := Lib.hid (SA.out.drewN nq)
            clear SA
            generalize wr.drewN nq = wb at SB ⊢
            go_wp2
            go_meet
            case rel => exact ⟨i', by omega, by omega, rfl, HS, SB⟩
      case rest =>
      obtain ⟨i', hi1, hi2, rfl, HS', SA⟩ := hcut
      clear S1 HS
      generalize wc = wa at SA ⊢
      by_cases hib' : i' = b
      · have g1 : ((i' : Int) == (b : Int)) = true := by rw [beq_iff_eq]; omega
        subst hib'
        go_wp2
        go_ret
        exact ⟨true, dk, rfl, HP.out, fun _ => HS'.out, SA.out⟩
      · have g1 : ((i' : Int) == (b : Int)) = false := by rw [beq_eq_false_iff_ne]; omega
        by_cases h50 : b - a < 50
        · have g2 : (b : Int) - (a : Int) < 50 := by omega
          go_wp2
          go_ret
          exact ⟨false, dk, rfl, HP.out, (fun h => by cases h), SA.out⟩
        · have g2 : ¬ (b : Int) - (a : Int) < 50 := by omega
          obtain ⟨p, rfl⟩ : ∃ p, i' = p + 1 := ⟨i' - 1, by omega⟩
          have k1 : p < n := by omega
          have k2 : p + 1 < n := by omega
          have hdk : b ≤ dk.size := by rw [SA.out.size]; exact hb
          have HI := Lib.hid (ins_begin HS'.out (by omega))
          have HP2 := Lib.hid (perm_trans HP.out (swp_permIn dk a b (p + 1) p (by omega) (by omega) (by omega) (by omega) hdk))
          clear HS' HP hdk
          have SB := Lib.hid (SA.out.swapped (p + 1) (p) (by omega) (by omega))
          have ca := SA.out.cell (p + 1) (by omega)
          have cb := SA.out.cell (p) (by omega)
          have fa := SA.out.frozen (p + 1) (by omega)
          have fb := SA.out.frozen (p) (by omega)
          obtain ⟨u, cc⟩ := SA.out.second (p + 1) (p) (by omega) (by omega) (.float .f64 dk[p]!)
          generalize dk[p + 1]! = x at ca SB
          generalize dk[p]! = y at cb SB cc
          clear SA
          go_wp2_with fail
          go_big_region_o
          clear ca cb cc fa fb
          generalize ((wa.setCell ⟨bk, off + (p + 1), none⟩ (.float .f64 y)).setCell ⟨bk, off + (p), none⟩ (.float .f64 x)).drew = wb at SB ⊢
          generalize swp dk (p + 1) p = d2 at HI HP2 SB
          go_upto_if 61 with fail
          go_cut [7] from 13 to 132 (fun u wx => u = .int .i64 (p + 1 : Nat) ∧ ∃ d3, Hid (PermIn a b d d3) ∧ Hid (SortedIn ltF a (p + 1) d3) ∧ Hid (At w0 bk off n d3 wx))
          case first =>
            by_cases hpa : a < p
            · have g3 : (2 : Int) ≤ (p : Int) + 1 - (a : Int) := by omega
              go_wp2_with fail
              go_loopg [9] (p + 1) (fun g u wr2 => ∃ (j : Nat) (d3 : Array Nat), a ≤ j ∧ j ≤ p ∧ j < g ∧ u = .int .i64 j ∧ Hid (Ins ltF a j p d3) ∧ Hid (PermIn a b d d3) ∧ Hid (At w0 bk off n d3 wr2))
              case atStart => exact ⟨p, d2, by omega, Nat.le_refl _, by omega, by first | rfl | go_num, HI, HP2, SB⟩
              case round =>
                clear SB HI HP2
                obtain ⟨j, d3, hj1, hj2, hj3, rfl, HI, HP2, SC⟩ := hrel
                by_cases hj0 : 1 ≤ j
                · obtain ⟨q, rfl⟩ : ∃ q, j = q + 1 := ⟨j - 1, by omega⟩
                  have g4 : (1 : Int) ≤ (q : Int) + 1 := by omega
                  have k3 : q < n := by omega
                  have k4 : q + 1 < n := by omega
                  have c1 := SC.out.cell (q + 1) (by omega)
                  have c2 := SC.out.cell (q) (by omega)
                  cases hlv : ltF d3[q + 1]! d3[q]! with
                  | true =>
                    have hl := Lib.hid (lessF_quiet wr _ _ hlv)
                    have HL := Lib.hid hlv
                    clear hlv
                    generalize d3[q + 1]! = x at c1 hl
                    generalize d3[q]! = y at c2 hl
                    go_wp2_with fail
                    go_quiet ((go_at_call 50; exact hl.out _))
                    have SD := Lib.hid (SC.out.drewN nq)
                    clear c1 c2 hl SC
                    generalize wr.drewN nq = wd at SD ⊢
                    have hqa : a ≤ q := by
                      rcases Nat.lt_or_ge q a with h | h
                      · exfalso
                        obtain rfl : a = q + 1 := by omega
                        have := below_none (Below.permA permIn_all hds.out HB.out HP2.out) (by omega) (by omega)
                        rw [Nat.add_sub_cancel, HL.out] at this
                        cases this
                      · exact h
                    have hd3 : b ≤ d3.size := by rw [SD.out.size]; exact hb
                    have HI2 := Lib.hid (HI.out.step HL.out hqa (by omega))
                    have HP3 := Lib.hid (perm_trans HP2.out (swp_permIn d3 a b (q + 1) q (by omega) (by omega) (by omega) (by omega) hd3))
                    clear HI HP2 hd3
                    have SE := Lib.hid (SD.out.swapped (q + 1) (q) (by omega) (by omega))
                    have ca := SD.out.cell (q + 1) (by omega)
                    have cb := SD.out.cell (q) (by omega)
                    have fa := SD.out.frozen (q + 1) (by omega)
                    have fb := SD.out.frozen (q) (by omega)
                    obtain ⟨u, cc⟩ := SD.out.second (q + 1) (q) (by omega) (by omega) (.float .f64 d3[q]!)
                    generalize d3[q + 1]! = x at ca SE
                    generalize d3[q]! = y at cb SE cc
                    clear SD
                    go_wp2_with fail
                    go_big_region_o
                    clear ca cb cc fa fb
                    generalize ((wd.setCell ⟨bk, off + (q + 1), none⟩ (.float .f64 y)).setCell ⟨bk, off + (q), none⟩ (.float .f64 x)).drew = we at SE ⊢
                    go_wp2
                    go_roundg (q + 1)
                    case measure => omega
                    case rel => exact ⟨q, _, by omega, by omega, by omega, by first | rfl | go_num, HI2, HP3, SE⟩
                  | false =>
                    have hl := Lib.hid (lessF_quiet wr _ _ hlv)
                    have HL := Lib.hid hlv
                    clear hlv
                    generalize d3[q + 1]! = x at c1 hl
                    generalize d3[q]! = y at c2 hl
                    go_wp2_with fail
                    go_quiet ((go_at_call 50; exact hl.out _))
                    have SD := Lib.hid (SC.out.drewN nq)
                    clear c1 c2 hl SC
                    generalize wr.drewN nq = wd at SD ⊢
                    have HS2 := Lib.hid (HI.out.stop swo_ltF (Or.inr HL.out))
                    go_wp2
                    go_meet
                    case rel => exact ⟨by first | rfl | go_num, d3, HP2, HS2, SD⟩
                · have g4 : ¬ (1 : Int) ≤ (j : Int) := by omega
                  have HS2 := Lib.hid (HI.out.stop swo_ltF (Or.inl (by omega)))
                  go_wp2
                  go_meet
                  case rel => exact ⟨by first | rfl | go_num, d3, HP2, HS2, SC⟩
            · have g3 : ¬ (2 : Int) ≤ (p : Int) + 1 - (a : Int) := by omega
              go_wp2
              go_meet
              case rel => exact ⟨by first | rfl | go_num, d2, HP2, Lib.hid (fun i j h1 h2 h3 => by omega), SB⟩
          case rest =>
          obtain ⟨rfl, d3, HP3, HS3, SF⟩ := hcut
          clear SB HI HP2
          generalize wc = wf at SF ⊢
          have HX := Lib.hid True.intro
          clear HX
          by_cases hpb : p + 3 ≤ b
          · have g3 : (2 : Int) ≤ (b : Int) - ((p : Int) + 1) := by omega
            go_wp2_with fail
            go_loopg [10] b (fun g u wr2 => ∃ (j : Nat) (d4 : Array Nat), p + 2 ≤ j ∧ j ≤ b ∧ b - j < g ∧ u = .int .i64 j ∧ Hid (SortedIn ltF a (p + 1) d4) ∧ Hid (PermIn a b d d4) ∧ Hid (At w0 bk off n d4 wr2))
            case atStart => exact ⟨p + 2, d3, by omega, by omega, by omega, by first | rfl | go_num | (congr 1 <;> omega), HS3, HP3, SF⟩
            case round =>
              clear SF HS3 HP3
              obtain ⟨j, d4, hj1, hj2, hj3, rfl, HS3, HP3, SG⟩ := hrel
              by_cases hjb : j < b
              · obtain ⟨q, rfl⟩ : ∃ q, j = q + 1 := ⟨j - 1, by omega⟩
                have g4 : (q : Int) + 1 < (b : Int) := by omega
                have k3 : q < n := by omega
                have k4 : q + 1 < n := by omega
                have c1 := SG.out.cell (q + 1) (by omega)
                have c2 := SG.out.cell (q) (by omega)
                cases hlv : ltF d4[q + 1]! d4[q]! with
                | true =>
                  have hl := Lib.hid (lessF_quiet wr _ _ hlv)
                  have HL := Lib.hid hlv
                  clear hlv
                  generalize d4[q + 1]! = x at c1 hl
                  generalize d4[q]! = y at c2 hl
                  go_wp2_with fail
                  go_quiet ((go_at_call 50; exact hl.out _))
                  have SH := Lib.hid (SG.out.drewN nq)
                  clear c1 c2 hl SG
                  generalize wr.drewN nq = wh at SH ⊢
                  have hd4 : b ≤ d4.size := by rw [SH.out.size]; exact hb
                  have HP4 := Lib.hid (perm_trans HP3.out (swp_permIn d4 a b (q + 1) q (by omega) (by omega) (by omega) (by omega) hd4))
                  have HS4 := Lib.hid (SortedIn.congrA HS3.out (fun k hk => swp_other d4 (q + 1) q k (by omega) (by omega)))
                  clear HS3 HP3 hd4
                  have SI := Lib.hid (SH.out.swapped (q + 1) (q) (by omega) (by omega))
                  have ca := SH.out.cell (q + 1) (by omega)
                  have cb := SH.out.cell (q) (by omega)
                  have fa := SH.out.frozen (q + 1) (by omega)
                  have fb := SH.out.frozen (q) (by omega)
                  obtain ⟨u, cc⟩ := SH.out.second (q + 1) (q) (by omega) (by omega) (.float .f64 d4[q]!)
                  generalize d4[q + 1]! = x at ca SI
                  generalize d4[q]! = y at cb SI cc
                  clear SH
                  go_wp2_with fail
                  go_big_region_o
                  clear ca cb cc fa fb
                  generalize ((wh.setCell ⟨bk, off + (q + 1), none⟩ (.float .f64 y)).setCell ⟨bk, off + (q), none⟩ (.float .f64 x)).drew = wi at SI ⊢
                  go_wp2
                  go_roundg (b - (q + 1))
                  case measure => omega
                  case rel => exact ⟨q + 1 + 1, _, by omega, by omega, by omega, by go_num, HS4, HP4, SI⟩
                | false =>
                  have hl := Lib.hid (lessF_quiet wr _ _ hlv)
                  have HL := Lib.hid hlv
                  clear hlv
                  generalize d4[q + 1]! = x at c1 hl
                  generalize d4[q]! = y at c2 hl
                  go_wp2_with fail
                  go_quiet ((go_at_call 50; exact hl.out _))
                  have SH := Lib.hid (SG.out.drewN nq)
                  clear c1 c2 hl SG
                  generalize wr.drewN nq = wh at SH ⊢
                  go_wp2
                  go_roundg (5 - (s + 1))
                  case measure => omega
                  case rel => exact ⟨p + 1, s + 1, d4, by omega, by omega, by omega, by omega, by first | rfl | go_num, by go_num, HS3, HP3, SH⟩
              · have g4 : ¬ (j : Int) < (b : Int) := by omega
                go_wp2
                go_roundg (5 - (s + 1))
                case measure => omega
                case rel => exact ⟨p + 1, s + 1, d4, by omega, by omega, by omega, by omega, by first | rfl | go_num, by go_num, HS3, HP3, SG⟩
          · have g3 : ¬ (2 : Int) ≤ (b : Int) - ((p : Int) + 1) := by omega
            go_wp2
            go_roundg (5 - (s + 1))
            case measure => omega
            case rel => exact ⟨p + 1, s + 1, d3, by omega, by omega, by omega, by omega, by first | rfl | go_num, by go_num, HS3, HP3, SF⟩
    · have g5 : ¬ (s : Int) < 5 := by omega
      go_wp2
      go_ret
      exact ⟨false, dk, rfl, HP.out, (fun h => by cases h), S1.out⟩

end Go.Proofs.Ytlibakmllogcdaa
