/-
  slices.partitionEqualOrdered, partitionOrdered at float64. No statement is proved here.
-/
import Derived.Test.YtlibakmllogcdaaFloatKit
import Derived.Sort.LotA
import Derived.Deep.CutBlock
import Derived.Deep.LoopGhost
namespace Go.Proofs.Ytlibakmllogcdaa
open Go.RowKit Go.Shelf Go.Sort Go.Lib

/-- As far as a partition has come: left of i all are up, right of j none is; the pivot lies at a. -/
structure Pt (U : Nat → Nat → Bool) (a b i j : Nat) (d dk : Array Nat) : Prop where
  perm : PermIn a b d dk
  head : dk[a]! = d[a]!
  low : ∀ k, a < k → k < i → U d[a]! dk[k]! = true
  high : ∀ k, j < k → k < b → U d[a]! dk[k]! = false
section
variable {U : Nat → Nat → Bool} {a b i j : Nat} {d dk : Array Nat}
theorem Pt.start (U : Nat → Nat → Bool) (a b : Nat) (d : Array Nat) : Pt U a b (a + 1) (b - 1) d d := ⟨permIn_refl _ _ _, rfl, fun k h1 h2 => by omega, fun k h1 h2 => by omega⟩
theorem Pt.up (h : Pt U a b i j d dk) (hU : U dk[a]! dk[i]! = true) : Pt U a b (i + 1) j d dk :=
  ⟨h.perm, h.head, fun k h1 h2 => by
    by_cases e : k = i
    · subst e; rw [← h.head]; exact hU
    · exact h.low k h1 (by omega), h.high⟩
theorem Pt.down (h : Pt U a b i (j + 1) d dk) (hU : U dk[a]! dk[j + 1]! = false) : Pt U a b i j d dk :=
  ⟨h.perm, h.head, h.low, fun k h1 h2 => by
    by_cases e : k = j + 1
    · subst e; rw [← h.head]; exact hU
    · exact h.high k (by omega) h2⟩
theorem Pt.swap (h : Pt U a b i (j + 1) d dk) (hai : a < i) (hij : i ≤ j) (hjb : j + 1 < b) (hb : b ≤ dk.size) (hUi : U dk[a]! dk[i]! = false) (hUj : U dk[a]! dk[j + 1]! = true) : Pt U a b (i + 1) j d (swp dk i (j + 1)) := by
  have g := swp_get dk (i := i) (j := j + 1) (by omega) (by omega)
  rw [h.head] at hUi hUj
  refine ⟨permIn_trans _ _ _ _ _ h.perm (swp_permIn dk a b i (j + 1) (by omega) (by omega) (by omega) (by omega) hb), ?_, fun k h1 h2 => ?_, fun k h1 h2 => ?_⟩
  · rw [g, if_neg (by omega), if_neg (by omega)]; exact h.head
  · rw [g, if_neg (by omega)]
    by_cases e : k = i
    · rw [if_pos e]; exact hUj
    · rw [if_neg e]; exact h.low k h1 (by omega)
  · rw [g]
    by_cases e : k = j + 1
    · rw [if_pos e]; exact hUi
    · rw [if_neg e, if_neg (by omega)]; exact h.high k (by omega) h2
end
def upE (p x : Nat) : Bool := !ltF p x
def upP (p x : Nat) : Bool := ltF x p

set_option maxHeartbeats 4000000 in
set_option maxRecDepth 100000 in
theorem fsPartEq_calls (w0 w : World) (bk off cap n a b pv : Nat) (A B C : Int) (d : Array Nat) (S : At w0 bk off n d w) (hA : A = a) (hB : B = b) (hC : C = pv) (hap : a ≤ pv) (hpb : pv < b) (hb : b ≤ n) (hn : n < 4611686018427387904) :
    Calls Try.prog 51 #[.slice (some ⟨bk, off, none⟩) n cap, .int .i64 A, .int .i64 B, .int .i64 C] w fun e w' => ∃ (mid : Nat) (d' : Array Nat), e = .returned (.int .i64 mid) ∧ a < mid ∧ mid ≤ b ∧ PermIn a b d d' ∧
      (∀ k, a ≤ k → k < mid → ltF d[pv]! d'[k]! = false) ∧ (∀ k, mid ≤ k → k < b → ltF d[pv]! d'[k]! = true) ∧ At w0 bk off n d' w' := by
  subst hA hB hC
  have mixed : Try.prog.follows .mixedOrders = true := by kernel_rfl
  have hst := storeF
  have S0 := Lib.hid S
  have ka : a < n := by omega
  have kp : pv < n := by omega
  have hd1 := swp_permIn d a b a pv (by omega) (by omega) (by omega) (by omega) (by rw [S.size]; exact hb)
  have hp1 : (swp d a pv)[a]! = d[pv]! := by
    rw [swp_get d (by rw [S.size]; exact ka) (by rw [S.size]; exact kp)]
    by_cases e : a = pv
    · rw [if_pos e, e]
    · rw [if_neg e, if_pos rfl]
  have Hd1 := Lib.hid hd1
  obtain ⟨P, hP⟩ : ∃ P, P = d[pv]! := ⟨_, rfl⟩
  rw [← hP] at hp1 ⊢
  have Hp1 := Lib.hid hp1
  clear S hd1 hp1 hP
  go_enter Try.func51, Try.ntmps51
  have S1 := Lib.hid (S0.out.swapped (a) (pv) (by omega) (by omega))
  have ca := S0.out.cell (a) (by omega)
  have cb := S0.out.cell (pv) (by omega)
  have fa := S0.out.frozen (a) (by omega)
  have fb := S0.out.frozen (pv) (by omega)
  obtain ⟨u, cc⟩ := S0.out.second (a) (pv) (by omega) (by omega) (.float .f64 d[pv]!)
  generalize d[a]! = x at ca S1
  generalize d[pv]! = y at cb S1 cc
  clear S0
  go_wp2_with fail
  go_big_region_o
  clear ca cb cc fa fb
  generalize ((w.setCell ⟨bk, off + (a), none⟩ (.float .f64 y)).setCell ⟨bk, off + (pv), none⟩ (.float .f64 x)).drew = w1 at S1 ⊢
  generalize swp d a pv = d1 at S1 Hd1 Hp1
  go_wp2_with fail
  go_loopg [9, 10] b (fun g u v wr => ∃ (i j : Nat) (dk : Array Nat), a < i ∧ i ≤ j + 1 ∧ j < b ∧ j + 1 - i ≤ g ∧ u = .int .i64 i ∧ v = .int .i64 j ∧ Hid (Pt upE a b i j d1 dk) ∧ Hid (At w0 bk off n dk wr))
  case atStart => exact ⟨a + 1, b - 1, d1, by omega, by omega, by omega, by omega, by go_num, by congr 1 <;> omega, Lib.hid (Pt.start upE a b d1), S1⟩
  case round =>
    clear S1
    obtain ⟨i, j, dk, hai, hij, hjb, hg, rfl, rfl, HP, SZ⟩ := hrel
    go_upto_block 2 with fail
    go_cut [9] from 29 to 82 (fun u wx => ∃ i' : Nat, i ≤ i' ∧ i' ≤ j + 1 ∧ u = .int .i64 i' ∧ Hid (Pt upE a b i' j d1 dk) ∧ Hid (i' ≤ j → upE dk[a]! dk[i']! = false) ∧ Hid (At w0 bk off n dk wx))
    case first =>
      go_wp2_with fail
      go_loopg [9] (j + 1 - i) (fun g u wr2 => ∃ i' : Nat, i ≤ i' ∧ i' ≤ j + 1 ∧ j + 1 - i' ≤ g ∧ u = .int .i64 i' ∧ Hid (Pt upE a b i' j d1 dk) ∧ Hid (At w0 bk off n dk wr2))
      case atStart => exact ⟨i, Nat.le_refl _, by omega, by omega, rfl, HP, SZ⟩
      case round =>
        clear HP SZ
        obtain ⟨i', hi1, hi2, hg2, rfl, HP, SA⟩ := hrel
        by_cases hle : i' ≤ j
        · have g1 : decide ((i' : Int) ≤ (j : Int)) = true := decide_eq_true (by omega)
          have g2 : decide (i' ≤ j) = true := decide_eq_true hle
          have kk : i' < n := by omega
          have c1 := SA.out.cell (a) (by omega)
          have c2 := SA.out.cell (i') (by omega)
          cases hlv : ltF dk[a]! dk[i']! with
          | true =>
            have hl := Lib.hid (lessF_quiet wr _ _ hlv)
            have HL := Lib.hid hlv
            clear hlv
            generalize dk[a]! = x at c1 hl
            generalize dk[i']! = y at c2 hl
            go_wp2_with fail
            go_quiet ((go_at_call 50; exact hl.out _))
            have SB := Lib.hid (SA.out.drewN nq)
            clear c1 c2 hl SA
            generalize wr.drewN nq = wb at SB ⊢
            go_wp2
            go_meet
            case rel => exact ⟨i', by omega, by omega, rfl, HP, Lib.hid (fun _ => by unfold upE; rw [HL.out]; rfl), SB⟩
          | false =>
            have hl := Lib.hid (lessF_quiet wr _ _ hlv)
            have HL := Lib.hid hlv
            clear hlv
            generalize dk[a]! = x at c1 hl
            generalize dk[i']! = y at c2 hl
            go_wp2_with fail
            go_quiet ((go_at_call 50; exact hl.out _))
            have SB := Lib.hid (SA.out.drewN nq)
            clear c1 c2 hl SA
            generalize wr.drewN nq = wb at SB ⊢
            have HP2 := Lib.hid (HP.out.up (by unfold upE; rw [HL.out]; rfl))
            go_wp2
            go_roundg (j + 1 - (i' + 1))
            case measure => omega
            case rel => exact ⟨i' + 1, by omega, by omega, by omega, by go_num, HP2, SB⟩
        · have g1 : decide ((i' : Int) ≤ (j : Int)) = false := decide_eq_false (by omega)
          have g2 : decide (i' ≤ j) = false := decide_eq_false hle
          go_wp2_with fail
          go_quiet (fail)
          have SB := Lib.hid (SA.out.drewN nq)
          clear SA
          generalize wr.drewN nq = wb at SB ⊢
          go_wp2
          go_meet
          case rel => exact ⟨i', by omega, by omega, rfl, HP, Lib.hid (fun h => absurd h hle), SB⟩
    case rest =>
    obtain ⟨i', hi1, hi2, rfl, HP, HUi, SC0⟩ := hcut
    clear SZ
    generalize wc = wa at SC0 ⊢
    go_upto_block 4 with fail
    go_cut [10] from 29 to 82 (fun u wx => ∃ j' : Nat, i' ≤ j' + 1 ∧ j' ≤ j ∧ u = .int .i64 j' ∧ Hid (Pt upE a b i' j' d1 dk) ∧ Hid (i' ≤ j' → upE dk[a]! dk[j']! = true) ∧ Hid (At w0 bk off n dk wx))
    case first =>
      go_wp2_with fail
      go_loopg [10] (j + 1 - i') (fun g u wr2 => ∃ j' : Nat, i' ≤ j' + 1 ∧ j' ≤ j ∧ j' + 1 - i' ≤ g ∧ u = .int .i64 j' ∧ Hid (Pt upE a b i' j' d1 dk) ∧ Hid (At w0 bk off n dk wr2))
      case atStart => exact ⟨j, by omega, Nat.le_refl _, by omega, rfl, HP, SC0⟩
      case round =>
        clear HP SC0
        obtain ⟨j', hj1, hj2, hg2, rfl, HP, SA⟩ := hrel
        by_cases hle : i' ≤ j'
        · obtain ⟨p, rfl⟩ : ∃ p, j' = p + 1 := ⟨j' - 1, by omega⟩
          have g1 : decide ((i' : Int) ≤ (p : Int) + 1) = true := decide_eq_true (by omega)
          have g2 : decide (i' ≤ p + 1) = true := decide_eq_true hle
          have kk : p + 1 < n := by omega
          have c1 := SA.out.cell (a) (by omega)
          have c2 := SA.out.cell (p + 1) (by omega)
          cases hlv : ltF dk[a]! dk[p + 1]! with
          | true =>
            have hl := Lib.hid (lessF_quiet wr _ _ hlv)
            have HL := Lib.hid hlv
            clear hlv
            generalize dk[a]! = x at c1 hl
            generalize dk[p + 1]! = y at c2 hl
            go_wp2_with fail
            go_quiet ((go_at_call 50; exact hl.out _))
            have SB := Lib.hid (SA.out.drewN nq)
            clear c1 c2 hl SA
            generalize wr.drewN nq = wb at SB ⊢
            have HP2 := Lib.hid (HP.out.down (by unfold upE; rw [HL.out]; rfl))
            go_wp2
            go_roundg (p + 1 - i')
            case measure => omega
            case rel => exact ⟨p, by omega, by omega, by omega, by first | rfl | go_num, HP2, SB⟩
          | false =>
            have hl := Lib.hid (lessF_quiet wr _ _ hlv)
            have HL := Lib.hid hlv
            clear hlv
            generalize dk[a]! = x at c1 hl
            generalize dk[p + 1]! = y at c2 hl
            go_wp2_with fail
            go_quiet ((go_at_call 50; exact hl.out _))
            have SB := Lib.hid (SA.out.drewN nq)
            clear c1 c2 hl SA
            generalize wr.drewN nq = wb at SB ⊢
            go_wp2
            go_meet
            case rel => exact ⟨p + 1, by omega, by omega, by first | rfl | go_num, HP, Lib.hid (fun _ => by unfold upE; rw [HL.out]; rfl), SB⟩
        · have g1 : decide ((i' : Int) ≤ (j' : Int)) = false := decide_eq_false (by omega)
          have g2 : decide (i' ≤ j') = false := decide_eq_false hle
          go_wp2_with fail
          go_quiet (fail)
          have SB := Lib.hid (SA.out.drewN nq)
          clear SA
          generalize wr.drewN nq = wb at SB ⊢
          go_wp2
          go_meet
          case rel => exact ⟨j', by omega, by omega, rfl, HP, Lib.hid (fun h => absurd h hle), SB⟩
    case rest =>
    obtain ⟨j', hj1, hj2, rfl, HP, HUj, SC⟩ := hcut
    clear SC0
    generalize wc = wd at SC ⊢
    by_cases hle : i' ≤ j'
    · have u1 := HUi.out (by omega)
      have u2 := HUj.out hle
      have hne : i' ≠ j' := fun e => by subst e; rw [u1] at u2; cases u2
      obtain ⟨p, rfl⟩ : ∃ p, j' = p + 1 := ⟨j' - 1, by omega⟩
      have HQ := Lib.hid (HP.out.swap (by omega) (by omega) (by omega) (by rw [SC.out.size]; exact hb) u1 u2)
      have kk1 : i' < n := by omega
      have kk2 : p + 1 < n := by omega
      have g1 : ¬ (p : Int) + 1 < (i' : Int) := by omega
      have g2 : ¬ p + 1 < i' := by omega
      clear HUi HUj HP u1 u2
      have SE := Lib.hid (SC.out.swapped (i') (p + 1) (by omega) (by omega))
      have ca := SC.out.cell (i') (by omega)
      have cb := SC.out.cell (p + 1) (by omega)
      have fa := SC.out.frozen (i') (by omega)
      have fb := SC.out.frozen (p + 1) (by omega)
      obtain ⟨u, cc⟩ := SC.out.second (i') (p + 1) (by omega) (by omega) (.float .f64 dk[p + 1]!)
      generalize dk[i']! = x at ca SE
      generalize dk[p + 1]! = y at cb SE cc
      clear SC
      go_wp2_with fail
      go_big_region_o
      clear ca cb cc fa fb
      generalize ((wd.setCell ⟨bk, off + (i'), none⟩ (.float .f64 y)).setCell ⟨bk, off + (p + 1), none⟩ (.float .f64 x)).drew = we at SE ⊢
      go_wp2
      go_roundg (p + 1 - (i' + 1))
      case measure => omega
      case rel => exact ⟨i' + 1, p, _, by omega, by omega, by omega, by omega, by go_num, by first | rfl | go_num, HQ, SE⟩
    · have g1 : (j' : Int) < (i' : Int) := by omega
      have g2 : j' < i' := by omega
      clear HUi HUj
      go_wp2
      go_ret
      obtain rfl : i' = j' + 1 := by omega
      have hpd := permIn_trans _ _ _ _ _ Hd1.out HP.out.perm
      refine ⟨j' + 1, dk, by first | rfl | simp, by omega, by omega, hpd, fun k h1 h2 => ?_, fun k h1 h2 => ?_, SC.out⟩
      · rw [← Hp1.out]
        by_cases e : k = a
        · subst e; rw [HP.out.head]; exact swo_ltF.irrefl _
        · have := HP.out.low k (by omega) h2; unfold upE at this; simpa using this
      · rw [← Hp1.out]
        have := HP.out.high k (by omega) h2; unfold upE at this; simpa using this

end Go.Proofs.Ytlibakmllogcdaa
