/-
  slices.partitionOrdered at float64. No statement is proved here.
-/
import Derived.Test.YtlibakmllogcdaaFsPartE
namespace Go.Proofs.Ytlibakmllogcdaa
open Go.RowKit Go.Shelf Go.Sort Go.Lib

theorem part_end {a b j : Nat} {d dk : Array Nat} {P : Nat} (h : Pt upP a b (j + 1) j d dk) (hp : d[a]! = P) (haj : a ≤ j) (hjb : j < b) (hb : b ≤ dk.size) :
    PermIn a b dk (swp dk j a) ∧ (swp dk j a)[j]! = P ∧ (∀ k, a ≤ k → k < j → ltF (swp dk j a)[k]! P = true) ∧ (∀ k, j < k → k < b → ltF (swp dk j a)[k]! P = false) := by
  have g := swp_get dk (i := j) (j := a) (by omega) (by omega)
  have hh := h.head
  rw [hp] at hh
  refine ⟨swp_permIn dk a b j a (by omega) (by omega) (by omega) (by omega) hb, ?_, fun k h1 h2 => ?_, fun k h1 h2 => ?_⟩
  · rw [g]
    by_cases e : j = a
    · rw [if_pos e, e]; exact hh
    · rw [if_neg e, if_pos rfl]; exact hh
  · rw [g]
    by_cases e : k = a
    · rw [if_pos e]
      have := h.low j (by omega) (by omega)
      rw [hp] at this
      exact this
    · rw [if_neg e, if_neg (by omega)]
      have := h.low k (by omega) (by omega)
      rw [hp] at this
      exact this
  · rw [g, if_neg (by omega), if_neg (by omega)]
    have := h.high k h1 h2
    rw [hp] at this
    exact this
set_option maxHeartbeats 4000000 in
set_option maxRecDepth 100000 in
theorem fsPart_calls (w0 w : World) (bk off cap n a b pv : Nat) (A B C : Int) (d : Array Nat) (S : At w0 bk off n d w) (hA : A = a) (hB : B = b) (hC : C = pv) (hap : a ≤ pv) (hpb : pv < b) (hb : b ≤ n) (hn : n < 4611686018427387904) :
    Calls Try.prog 52 #[.slice (some ⟨bk, off, none⟩) n cap, .int .i64 A, .int .i64 B, .int .i64 C] w fun e w' => ∃ (mid : Nat) (al : Bool) (d' : Array Nat), e = .returned (.tuple #[.int .i64 mid, .bool al]) ∧ a ≤ mid ∧ mid < b ∧ PermIn a b d d' ∧ d'[mid]! = d[pv]! ∧
      (∀ k, a ≤ k → k < mid → ltF d'[k]! d[pv]! = true) ∧ (∀ k, mid < k → k < b → ltF d'[k]! d[pv]! = false) ∧ At w0 bk off n d' w' := by
  subst hA hB hC
  have mixed : Try.prog.follows .mixedOrders = true := by kernel_rfl
  have hst := storeF
  have S0 := Lib.hid S
  have ka : a < n := by omega
  have kp : pv < n := by omega
  have hd1 := swp_permIn d a b a pv (by omega) (by omega) (by omega) (by omega) (by rw [S.size]; exact hb)
  have hp1 : (swp d a pv)[a]! = d[pv]! := by
    rw [swp_get d (by rw [S.size]; exact ka) (by rw [S.size]; exact kp)]
    by_cases e : a = pv
    · rw [if_pos e, e]
    · rw [if_neg e, if_pos rfl]
  have Hd1 := Lib.hid hd1
  obtain ⟨P, hP⟩ : ∃ P, P = d[pv]! := ⟨_, rfl⟩
  rw [← hP] at hp1 ⊢
  have Hp1 := Lib.hid hp1
  clear S hd1 hp1 hP
  go_enter Try.func52, Try.ntmps52
  have S1 := Lib.hid (S0.out.swapped (a) (pv) (by omega) (by omega))
  have ca := S0.out.cell (a) (by omega)
  have cb := S0.out.cell (pv) (by omega)
  have fa := S0.out.frozen (a) (by omega)
  have fb := S0.out.frozen (pv) (by omega)
  obtain ⟨u, cc⟩ := S0.out.second (a) (pv) (by omega) (by omega) (.float .f64 d[pv]!)
  generalize d[a]! = x at ca S1
  generalize d[pv]! = y at cb S1 cc
  clear S0
  go_wp2_with fail
  go_big_region_o
  clear ca cb cc fa fb
  generalize ((w.setCell ⟨bk, off + (a), none⟩ (.float .f64 y)).setCell ⟨bk, off + (pv), none⟩ (.float .f64 x)).drew = w1 at S1 ⊢
  generalize swp d a pv = d1 at S1 Hd1 Hp1
  obtain ⟨i, hi0⟩ : ∃ i, i = a + 1 := ⟨_, rfl⟩
  obtain ⟨j, hj0⟩ : ∃ j, j = b - 1 := ⟨_, rfl⟩
  have ei : (a : Int) + 1 = (i : Int) := by omega
  have ej : (b : Int) - 1 = (j : Int) := by omega
  have HP : Hid (Pt upP a b i j d1 d1) := Lib.hid (by rw [hi0, hj0]; exact Pt.start upP a b d1)
  have hai : a < i := by omega
  have hij : i ≤ j + 1 := by omega
  have hjb : j < b := by omega
  clear hi0 hj0
  obtain ⟨dk, hdk⟩ : ∃ dk, dk = d1 := ⟨_, rfl⟩
  have SZ : Hid (At w0 bk off n dk w1) := by rw [hdk]; exact S1
  replace HP : Hid (Pt upP a b i j d1 dk) := by rw [hdk]; exact HP
  clear hdk S1
  go_upto_block 0 with fail
  go_cut [10] from 12 (fun u wx => ∃ i' : Nat, i ≤ i' ∧ i' ≤ j + 1 ∧ u = .int .i64 i' ∧ Hid (Pt upP a b i' j d1 dk) ∧ Hid (i' ≤ j → upP dk[a]! dk[i']! = false) ∧ Hid (At w0 bk off n dk wx))
  case first =>
    go_wp2_with fail
    go_loopg [10] (j + 1 - i) (fun g u wr2 => ∃ i' : Nat, i ≤ i' ∧ i' ≤ j + 1 ∧ j + 1 - i' ≤ g ∧ u = .int .i64 i' ∧ Hid (Pt upP a b i' j d1 dk) ∧ Hid (At w0 bk off n dk wr2))
    case atStart => exact ⟨i, Nat.le_refl _, by omega, by omega, rfl, HP, SZ⟩
    case round =>
      clear HP SZ
      obtain ⟨i', hi1, hi2, hg2, rfl, HP, SA⟩ := hrel
      by_cases hle : i' ≤ j
      · have g1 : decide ((i' : Int) ≤ (j : Int)) = true := decide_eq_true (by omega)
        have g2 : decide (i' ≤ j) = true := decide_eq_true hle
        have kk : i' < n := by omega
        have c1 := SA.out.cell (i') (by omega)
        have c2 := SA.out.cell (a) (by omega)
        cases hlv : ltF dk[i']! dk[a]! with
        | true =>
          have hl := Lib.hid (lessF_quiet wr _ _ hlv)
          have HL := Lib.hid hlv
          clear hlv
          generalize dk[i']! = x at c1 hl
          generalize dk[a]! = y at c2 hl
          go_wp2_with fail
          go_quiet ((go_at_call 50; exact hl.out _))
          have SB := Lib.hid (SA.out.drewN nq)
          clear c1 c2 hl SA
          generalize wr.drewN nq = wb at SB ⊢
          have HP2 := Lib.hid (HP.out.up (by unfold upP; rw [HL.out]))
          go_wp2
          go_roundg (j + 1 - (i' + 1))
          case measure => omega
          case rel => exact ⟨i' + 1, by omega, by omega, by omega, by go_num, HP2, SB⟩
        | false =>
          have hl := Lib.hid (lessF_quiet wr _ _ hlv)
          have HL := Lib.hid hlv
          clear hlv
          generalize dk[i']! = x at c1 hl
          generalize dk[a]! = y at c2 hl
          go_wp2_with fail
          go_quiet ((go_at_call 50; exact hl.out _))
          have SB := Lib.hid (SA.out.drewN nq)
          clear c1 c2 hl SA
          generalize wr.drewN nq = wb at SB ⊢
          go_wp2
          go_meet
          case rel => exact ⟨i', by omega, by omega, rfl, HP, Lib.hid (fun _ => by unfold upP; rw [HL.out]), SB⟩
      · have g1 : decide ((i' : Int) ≤ (j : Int)) = false := decide_eq_false (by omega)
        have g2 : decide (i' ≤ j) = false := decide_eq_false hle
        go_wp2_with fail
        go_quiet (fail)
        have SB := Lib.hid (SA.out.drewN nq)
        clear SA
        generalize wr.drewN nq = wb at SB ⊢
        go_wp2
        go_meet
        case rel => exact ⟨i', by omega, by omega, rfl, HP, Lib.hid (fun h => absurd h hle), SB⟩
  case rest =>
  obtain ⟨i', hi1, hi2, rfl, HP, HUi, SC0⟩ := hcut
  clear SZ
  generalize wc = wa at SC0 ⊢
  go_upto_block 2 with fail
  go_cut [11] from 12 (fun u wx => ∃ j' : Nat, i' ≤ j' + 1 ∧ j' ≤ j ∧ u = .int .i64 j' ∧ Hid (Pt upP a b i' j' d1 dk) ∧ Hid (i' ≤ j' → upP dk[a]! dk[j']! = true) ∧ Hid (At w0 bk off n dk wx))
  case first =>
    go_wp2_with fail
    go_loopg [11] (j + 1 - i') (fun g u wr2 => ∃ j' : Nat, i' ≤ j' + 1 ∧ j' ≤ j ∧ j' + 1 - i' ≤ g ∧ u = .int .i64 j' ∧ Hid (Pt upP a b i' j' d1 dk) ∧ Hid (At w0 bk off n dk wr2))
    case atStart => exact ⟨j, by omega, Nat.le_refl _, by omega, rfl, HP, SC0⟩
    case round =>
      clear HP SC0
      obtain ⟨j', hj1, hj2, hg2, rfl, HP, SA⟩ := hrel
      by_cases hle : i' ≤ j'
      · obtain ⟨p, rfl⟩ : ∃ p, j' = p + 1 := ⟨j' - 1, by omega⟩
        have g1 : decide ((i' : Int) ≤ (p : Int) + 1) = true := decide_eq_true (by omega)
        have g2 : decide (i' ≤ p + 1) = true := decide_eq_true hle
        have kk : p + 1 < n := by omega
        have c1 := SA.out.cell (p + 1) (by omega)
        have c2 := SA.out.cell (a) (by omega)
        cases hlv : ltF dk[p + 1]! dk[a]! with
        | true =>
          have hl := Lib.hid (lessF_quiet wr _ _ hlv)
          have HL := Lib.hid hlv
          clear hlv
          generalize dk[p + 1]! = x at c1 hl
          generalize dk[a]! = y at c2 hl
          go_wp2_with fail
          go_quiet ((go_at_call 50; exact hl.out _))
          have SB := Lib.hid (SA.out.drewN nq)
          clear c1 c2 hl SA
          generalize wr.drewN nq = wb at SB ⊢
          go_wp2
          go_meet
          case rel => exact ⟨p + 1, by omega, by omega, by first | rfl | go_num, HP, Lib.hid (fun _ => by unfold upP; rw [HL.out]), SB⟩
        | false =>
          have hl := Lib.hid (lessF_quiet wr _ _ hlv)
          have HL := Lib.hid hlv
          clear hlv
          generalize dk[p + 1]! = x at c1 hl
          generalize dk[a]! = y at c2 hl
          go_wp2_with fail
          go_quiet ((go_at_call 50; exact hl.out _))
          have SB := Lib.hid (SA.out.drewN nq)
          clear c1 c2 hl SA
          generalize wr.drewN nq = wb at SB ⊢
          have HP2 := Lib.hid (HP.out.down (by unfold upP; rw [HL.out]))
          go_wp2
          go_roundg (p + 1 - i')
          case measure => omega
          case rel => exact ⟨p, by omega, by omega, by omega, by first | rfl | go_num, HP2, SB⟩
      · have g1 : decide ((i' : Int) ≤ (j' : Int)) = false := decide_eq_false (by omega)
        have g2 : decide (i' ≤ j') = false := decide_eq_false hle
        go_wp2_with fail
        go_quiet (fail)
        have SB := Lib.hid (SA.out.drewN nq)
        clear SA
        generalize wr.drewN nq = wb at SB ⊢
        go_wp2
        go_meet
        case rel => exact ⟨j', by omega, by omega, rfl, HP, Lib.hid (fun h => absurd h hle), SB⟩
  case rest =>
  obtain ⟨j', hj1, hj2, rfl, HP, HUj, SC⟩ := hcut
  clear SC0
  generalize wc = wd at SC ⊢
  by_cases hle : i' ≤ j'
  · have u1 := HUi.out (by omega)
    have u2 := HUj.out hle
    have hne : i' ≠ j' := fun e => by subst e; rw [u1] at u2; cases u2
    obtain ⟨p, rfl⟩ : ∃ p, j' = p + 1 := ⟨j' - 1, by omega⟩
    have HQ := Lib.hid (HP.out.swap (by omega) (by omega) (by omega) (by rw [SC.out.size]; exact hb) u1 u2)
    have kk1 : i' < n := by omega
    have kk2 : p + 1 < n := by omega
    have g1 : ¬ (p : Int) + 1 < (i' : Int) := by omega
    have g2 : ¬ p + 1 < i' := by omega
    clear HUi HUj HP u1 u2
    have SE := Lib.hid (SC.out.swapped (i') (p + 1) (by omega) (by omega))
    have ca := SC.out.cell (i') (by omega)
    have cb := SC.out.cell (p + 1) (by omega)
    have fa := SC.out.frozen (i') (by omega)
    have fb := SC.out.frozen (p + 1) (by omega)
    obtain ⟨u, cc⟩ := SC.out.second (i') (p + 1) (by omega) (by omega) (.float .f64 dk[p + 1]!)
    generalize dk[i']! = x at ca SE
    generalize dk[p + 1]! = y at cb SE cc
    clear SC
    go_wp2_with fail
    go_big_region_o
    clear ca cb cc fa fb
    generalize ((wd.setCell ⟨bk, off + (i'), none⟩ (.float .f64 y)).setCell ⟨bk, off + (p + 1), none⟩ (.float .f64 x)).drew = we at SE ⊢
    generalize hdk2 : swp dk i' (p + 1) = dk2 at HQ SE
    clear hdk2
    go_wp2_with fail
    go_loopg [10, 11] b (fun g u v wr => ∃ (i j : Nat) (dk : Array Nat), a < i ∧ i ≤ j + 1 ∧ j < b ∧ j + 1 - i ≤ g ∧ u = .int .i64 i ∧ v = .int .i64 j ∧ Hid (Pt upP a b i j d1 dk) ∧ Hid (At w0 bk off n dk wr))
    case atStart => exact ⟨i' + 1, p, dk2, by omega, by omega, by omega, by omega, by go_num, by first | rfl | go_num, HQ, SE⟩
    case round =>
      clear SE HQ
      clear ei ej hai hij hjb hi1 hi2 hj1 hj2 hle hne kk1 kk2 g1 g2
      obtain ⟨i, j, dk, hai, hij, hjb, hg, rfl, rfl, HP, SZ⟩ := hrel
      go_upto_block 6 with fail
      go_cut [10] from 99 to 152 (fun u wx => ∃ i' : Nat, i ≤ i' ∧ i' ≤ j + 1 ∧ u = .int .i64 i' ∧ Hid (Pt upP a b i' j d1 dk) ∧ Hid (i' ≤ j → upP dk[a]! dk[i']! = false) ∧ Hid (At w0 bk off n dk wx))
      case first =>
        go_wp2_with fail
        go_loopg [10] (j + 1 - i) (fun g u wr2 => ∃ i' : Nat, i ≤ i' ∧ i' ≤ j + 1 ∧ j + 1 - i' ≤ g ∧ u = .int .i64 i' ∧ Hid (Pt upP a b i' j d1 dk) ∧ Hid (At w0 bk off n dk wr2))
        case atStart => exact ⟨i, Nat.le_refl _, by omega, by omega, rfl, HP, SZ⟩
        case round =>
          clear HP SZ
          obtain ⟨i', hi1, hi2, hg2, rfl, HP, SA⟩ := hrel
          by_cases hle : i' ≤ j
          · have g1 : decide ((i' : Int) ≤ (j : Int)) = true := decide_eq_true (by omega)
            have g2 : decide (i' ≤ j) = true := decide_eq_true hle
            have kk : i' < n := by omega
            have c1 := SA.out.cell (i') (by omega)
            have c2 := SA.out.cell (a) (by omega)
            cases hlv : ltF dk[i']! dk[a]! with
            | true =>
              have hl := Lib.hid (lessF_quiet wr _ _ hlv)
              have HL := Lib.hid hlv
              clear hlv
              generalize dk[i']! = x at c1 hl
              generalize dk[a]! = y at c2 hl
              go_wp2_with fail
              go_quiet ((go_at_call 50; exact hl.out _))
              have SB := Lib.hid (SA.out.drewN nq)
              clear c1 c2 hl SA
              generalize wr.drewN nq = wb at SB ⊢
              have HP2 := Lib.hid (HP.out.up (by unfold upP; rw [HL.out]))
              go_wp2
              go_roundg (j + 1 - (i' + 1))
              case measure => omega
              case rel => exact ⟨i' + 1, by omega, by omega, by omega, by go_num, HP2, SB⟩
            | false =>
              have hl := Lib.hid (lessF_quiet wr _ _ hlv)
              have HL := Lib.hid hlv
              clear hlv
              generalize dk[i']! = x at c1 hl
              generalize dk[a]! = y at c2 hl
              go_wp2_with fail
              go_quiet ((go_at_call 50; exact hl.out _))
              have SB := Lib.hid (SA.out.drewN nq)
              clear c1 c2 hl SA
              generalize wr.drewN nq = wb at SB ⊢
              go_wp2
              go_meet
              case rel => exact ⟨i', by omega, by omega, rfl, HP, Lib.hid (fun _ => by unfold upP; rw [HL.out]), SB⟩
          · have g1 : decide ((i' : Int) ≤ (j : Int)) = false := decide_eq_false (by omega)
            have g2 : decide (i' ≤ j) = false := decide_eq_false hle
            go_wp2_with fail
            go_quiet (fail)
            have SB := Lib.hid (SA.out.drewN nq)
            clear SA
            generalize wr.drewN nq = wb at SB ⊢
            go_wp2
            go_meet
            case rel => exact ⟨i', by omega, by omega, rfl, HP, Lib.hid (fun h => absurd h hle), SB⟩
      case rest =>
      obtain ⟨i', hi1, hi2, rfl, HP, HUi, SC0⟩ := hcut
      clear SZ
      generalize wc = wa at SC0 ⊢
      go_upto_block 8 with fail
      go_cut [11] from 99 to 152 (fun u wx => ∃ j' : Nat, i' ≤ j' + 1 ∧ j' ≤ j ∧ u = .int .i64 j' ∧ Hid (Pt upP a b i' j' d1 dk) ∧ Hid (i' ≤ j' → upP dk[a]! dk[j']! = true) ∧ Hid (At w0 bk off n dk wx))
      case first =>
        go_wp2_with fail
        go_loopg [11] (j + 1 - i') (fun g u wr2 => ∃ j' : Nat, i' ≤ j' + 1 ∧ j' ≤ j ∧ j' + 1 - i' ≤ g ∧ u = .int .i64 j' ∧ Hid (Pt upP a b i' j' d1 dk) ∧ Hid (At w0 bk off n dk wr2))
        case atStart => exact ⟨j, by omega, Nat.le_refl _, by omega, rfl, HP, SC0⟩
        case round =>
          clear HP SC0
          obtain ⟨j', hj1, hj2, hg2, rfl, HP, SA⟩ := hrel
          by_cases hle : i' ≤ j'
          · obtain ⟨p, rfl⟩ : ∃ p, j' = p + 1 := ⟨j' - 1, by omega⟩
            have g1 : decide ((i' : Int) ≤ (p : Int) + 1) = true := decide_eq_true (by omega)
            have g2 : decide (i' ≤ p + 1) = true := decide_eq_true hle
            have kk : p + 1 < n := by omega
            have c1 := SA.out.cell (p + 1) (by omega)
            have c2 := SA.out.cell (a) (by omega)
            cases hlv : ltF dk[p + 1]! dk[a]! with
            | true =>
              have hl := Lib.hid (lessF_quiet wr _ _ hlv)
              have HL := Lib.hid hlv
              clear hlv
              generalize dk[p + 1]! = x at c1 hl
              generalize dk[a]! = y at c2 hl
              go_wp2_with fail
              go_quiet ((go_at_call 50; exact hl.out _))
              have SB := Lib.hid (SA.out.drewN nq)
              clear c1 c2 hl SA
              generalize wr.drewN nq = wb at SB ⊢
              go_wp2
              go_meet
              case rel => exact ⟨p + 1, by omega, by omega, by first | rfl | go_num, HP, Lib.hid (fun _ => by unfold upP; rw [HL.out]), SB⟩
            | false =>
              have hl := Lib.hid (lessF_quiet wr _ _ hlv)
              have HL := Lib.hid hlv
              clear hlv
              generalize dk[p + 1]! = x at c1 hl
              generalize dk[a]! = y at c2 hl
              go_wp2_with fail
              go_quiet ((go_at_call 50; exact hl.out _))
              have SB := Lib.hid (SA.out.drewN nq)
              clear c1 c2 hl SA
              generalize wr.drewN nq = wb at SB ⊢
              have HP2 := Lib.hid (HP.out.down (by unfold upP; rw [HL.out]))
              go_wp2
              go_roundg (p + 1 - i')
              case measure => omega
              case rel => exact ⟨p, by omega, by omega, by omega, by first | rfl | go_num, HP2, SB⟩
          · have g1 : decide ((i' : Int) ≤ (j' : Int)) = false := decide_eq_false (by omega)
            have g2 : decide (i' ≤ j') = false := decide_eq_false hle
            go_wp2_with fail
            go_quiet (fail)
            have SB := Lib.hid (SA.out.drewN nq)
            clear SA
            generalize wr.drewN nq = wb at SB ⊢
            go_wp2
            go_meet
            case rel => exact ⟨j', by omega, by omega, rfl, HP, Lib.hid (fun h => absurd h hle), SB⟩
      case rest =>
      obtain ⟨j', hj1, hj2, rfl, HP, HUj, SC⟩ := hcut
      clear SC0
      generalize wc = wd at SC ⊢
      by_cases hle : i' ≤ j'
      · have u1 := HUi.out (by omega)
        have u2 := HUj.out hle
        have hne : i' ≠ j' := fun e => by subst e; rw [u1] at u2; cases u2
        obtain ⟨p, rfl⟩ : ∃ p, j' = p + 1 := ⟨j' - 1, by omega⟩
        have HQ := Lib.hid (HP.out.swap (by omega) (by omega) (by omega) (by rw [SC.out.size]; exact hb) u1 u2)
        have kk1 : i' < n := by omega
        have kk2 : p + 1 < n := by omega
        have g1 : ¬ (p : Int) + 1 < (i' : Int) := by omega
        have g2 : ¬ p + 1 < i' := by omega
        clear HUi HUj HP u1 u2
        have SE := Lib.hid (SC.out.swapped (i') (p + 1) (by omega) (by omega))
        have ca := SC.out.cell (i') (by omega)
        have cb := SC.out.cell (p + 1) (by omega)
        have fa := SC.out.frozen (i') (by omega)
        have fb := SC.out.frozen (p + 1) (by omega)
        obtain ⟨u, cc⟩ := SC.out.second (i') (p + 1) (by omega) (by omega) (.float .f64 dk[p + 1]!)
        generalize dk[i']! = x at ca SE
        generalize dk[p + 1]! = y at cb SE cc
        clear SC
        go_wp2_with fail
        go_big_region_o
        clear ca cb cc fa fb
        generalize ((wd.setCell ⟨bk, off + (i'), none⟩ (.float .f64 y)).setCell ⟨bk, off + (p + 1), none⟩ (.float .f64 x)).drew = we at SE ⊢
        go_wp2
        go_roundg (p + 1 - (i' + 1))
        case measure => omega
        case rel => exact ⟨i' + 1, p, _, by omega, by omega, by omega, by omega, by go_num, by first | rfl | go_num, HQ, SE⟩
      · have g1 : (j' : Int) < (i' : Int) := by omega
        have g2 : j' < i' := by omega
        have kj : j' < n := by omega
        have haj : a ≤ j' := by omega
        have hjb' : j' < b := by omega
        have FE := Lib.hid (part_end (j := j') (by rw [show j' + 1 = i' by omega]; exact HP.out) Hp1.out haj hjb' (by rw [SC.out.size]; exact hb))
        have FP := Lib.hid (permIn_trans _ _ _ _ _ (permIn_trans _ _ _ _ _ Hd1.out HP.out.perm) FE.out.1)
        clear HUi HUj HP
        have SF := Lib.hid (SC.out.swapped (j') (a) (by omega) (by omega))
        have ca := SC.out.cell (j') (by omega)
        have cb := SC.out.cell (a) (by omega)
        have fa := SC.out.frozen (j') (by omega)
        have fb := SC.out.frozen (a) (by omega)
        obtain ⟨u, cc⟩ := SC.out.second (j') (a) (by omega) (by omega) (.float .f64 dk[a]!)
        generalize dk[j']! = x at ca SF
        generalize dk[a]! = y at cb SF cc
        clear SC
        go_wp2_with fail
        go_big_region_o
        clear ca cb cc fa fb
        generalize ((wd.setCell ⟨bk, off + (j'), none⟩ (.float .f64 y)).setCell ⟨bk, off + (a), none⟩ (.float .f64 x)).drew = wf at SF ⊢
        go_wp2
        go_ret2
        exact ⟨j', false, _, rfl, haj, hjb', FP.out, FE.out.2.1, FE.out.2.2.1, FE.out.2.2.2, SF.out⟩
  · have g1 : (j' : Int) < (i' : Int) := by omega
    have g2 : j' < i' := by omega
    have kj : j' < n := by omega
    have haj : a ≤ j' := by omega
    have hjb' : j' < b := by omega
    have FE := Lib.hid (part_end (j := j') (by rw [show j' + 1 = i' by omega]; exact HP.out) Hp1.out haj hjb' (by rw [SC.out.size]; exact hb))
    have FP := Lib.hid (permIn_trans _ _ _ _ _ (permIn_trans _ _ _ _ _ Hd1.out HP.out.perm) FE.out.1)
    clear HUi HUj HP
    have SF := Lib.hid (SC.out.swapped (j') (a) (by omega) (by omega))
    have ca := SC.out.cell (j') (by omega)
    have cb := SC.out.cell (a) (by omega)
    have fa := SC.out.frozen (j') (by omega)
    have fb := SC.out.frozen (a) (by omega)
    obtain ⟨u, cc⟩ := SC.out.second (j') (a) (by omega) (by omega) (.float .f64 dk[a]!)
    generalize dk[j']! = x at ca SF
    generalize dk[a]! = y at cb SF cc
    clear SC
    go_wp2_with fail
    go_big_region_o
    clear ca cb cc fa fb
    generalize ((wd.setCell ⟨bk, off + (j'), none⟩ (.float .f64 y)).setCell ⟨bk, off + (a), none⟩ (.float .f64 x)).drew = wf at SF ⊢
    go_wp2
    go_ret2
    exact ⟨j', true, _, rfl, haj, hjb', FP.out, FE.out.2.1, FE.out.2.2.1, FE.out.2.2.2, SF.out⟩

end Go.Proofs.Ytlibakmllogcdaa
