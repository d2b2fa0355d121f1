/-
  The contracts of impl.rank, impl.byRank and its closure, spec.Rank, spec.RanksRise. No statement is proved here.
-/
import Derived.Test.YtpnlindmcomikaaBase
namespace Go.Proofs.Ytpnlindmcomikaa
open Go.RowKit Go.Shelf

/-- The rank of a number by a table. -/
def rk (tb : List Int) (v : Int) : Int := tb[(v % (tb.length : Int)).toNat]?.getD 0
/-- The comparison by ranks. -/
def ck (tb : List Int) (x y : Int) : Int := if rk tb x < rk tb y then -1 else if rk tb y < rk tb x then 1 else 0

theorem tmod_twice (v : Int) (n : Nat) (hn : 0 < n) : (Int.tmod v (n : Int) + (n : Int)).tmod (n : Int) = v % (n : Int) := by
  have h1 := Int.tmod_lt_of_pos v (show (0 : Int) < n by omega)
  have h2 := Int.lt_tmod_of_pos v (show (0 : Int) < n by omega)
  rw [Int.tmod_eq_emod_of_nonneg (by omega), Int.add_emod_right]
  rw [Int.tmod_eq_emod]
  split
  · simp
  · simp
theorem tmod_once (v : Int) (n : Nat) (hn : 0 < n) : (Int.tmod v (n : Int) < 0 → Int.tmod v (n : Int) + n = v % (n : Int)) ∧ (¬ Int.tmod v (n : Int) < 0 → Int.tmod v n = v % (n : Int)) := by
  have h1 := Int.tmod_lt_of_pos v (show (0 : Int) < n by omega)
  have h2 := Int.lt_tmod_of_pos v (show (0 : Int) < n by omega)
  have h3 := tmod_twice v n hn
  constructor
  · intro h
    rw [Int.tmod_eq_emod_of_nonneg (by omega)] at h3
    rw [← h3, Int.emod_eq_of_lt (by omega) (by omega)]
  · intro h
    rw [Int.tmod_eq_emod_of_nonneg (by omega), Int.add_emod_right] at h3
    rw [← h3, Int.emod_eq_of_lt (by omega) (by omega)]

theorem rk_none (v : Int) : rk [] v = 0 := by simp [rk]
theorem rk_at (tb : List Int) (v : Int) (k : Nat) (h : v % (tb.length : Int) = (k : Int)) : rk tb v = tb[k]?.getD 0 := by
  unfold rk
  rw [h]
  rfl

set_option maxHeartbeats 400000 in
/-- impl.rank -/
theorem rank_calls (w : World) (B : Nat) (tv : Value) (tb : List Int) (v : Int) (hs : SeesI w B tv tb) (hz : tb.length ≤ 1000000000000000000) :
    Calls Try.prog 35 #[tv, .int .i64 v] w fun e w' => e = .returned (.int .i64 (rk tb v)) ∧ w = w' := by
  obtain ⟨A, c, rfl, _, hx⟩ := hs.form
  clear hs
  rcases Nat.eq_zero_or_pos tb.length with h0 | h0
  · have hr : rk tb v = 0 := by rw [List.length_eq_zero_iff.1 h0, rk_none]
    rw [h0, hr]
    clear hx hr
    go_enter Try.func35, Try.ntmps35
    go_wp2
    go_ret
    exact ⟨rfl, rfl⟩
  · obtain ⟨b, off, rfl, _, hc⟩ := hx h0
    have h1 := Int.tmod_lt_of_pos v (show (0 : Int) < tb.length by omega)
    have h2 := Int.lt_tmod_of_pos v (show (0 : Int) < tb.length by omega)
    have ht := tmod_twice v tb.length h0
    have he0 := Int.emod_nonneg v (show (tb.length : Int) ≠ 0 by omega)
    have he1 := Int.emod_lt_of_pos v (show (0 : Int) < tb.length by omega)
    obtain ⟨k, hk⟩ := Int.eq_ofNat_of_zero_le he0
    have hkl : k < tb.length := by omega
    have hcx := hc k hkl
    rw [← rk_at tb v k hk] at hcx
    rw [hk] at ht
    clear hc hx he0 he1 hk
    generalize rk tb v = r at hcx
    have hw : wrap64 (Int.tmod v (tb.length : Int) + (tb.length : Int)) = Int.tmod v (tb.length : Int) + (tb.length : Int) := by unfold wrap64; omega
    go_enter Try.func35, Try.ntmps35
    go_wp2
    go_ret
    exact ⟨rfl, rfl⟩

set_option maxHeartbeats 400000 in
/-- spec.Rank -/
theorem specRank_calls (w : World) (B : Nat) (tv : Value) (tb : List Int) (v : Int) (hs : SeesI w B tv tb) (hz : tb.length ≤ 1000000000000000000) :
    Calls Try.prog 12 #[tv, .int .i64 v] w fun e w' => e = .returned (.int .i64 (rk tb v)) ∧ w = w' := by
  obtain ⟨A, c, rfl, _, hx⟩ := hs.form
  clear hs
  rcases Nat.eq_zero_or_pos tb.length with h0 | h0
  · have hr : rk tb v = 0 := by rw [List.length_eq_zero_iff.1 h0, rk_none]
    rw [h0, hr]
    clear hx hr
    go_enter Try.func12, Try.ntmps12
    go_wp2
    go_ret
    exact ⟨rfl, rfl⟩
  · obtain ⟨b, off, rfl, _, hc⟩ := hx h0
    have h1 := Int.tmod_lt_of_pos v (show (0 : Int) < tb.length by omega)
    have h2 := Int.lt_tmod_of_pos v (show (0 : Int) < tb.length by omega)
    have ht := tmod_once v tb.length h0
    have he0 := Int.emod_nonneg v (show (tb.length : Int) ≠ 0 by omega)
    have he1 := Int.emod_lt_of_pos v (show (0 : Int) < tb.length by omega)
    obtain ⟨k, hk⟩ := Int.eq_ofNat_of_zero_le he0
    have hkl : k < tb.length := by omega
    have hcx := hc k hkl
    rw [← rk_at tb v k hk] at hcx
    rw [hk] at ht
    clear hc hx he0 he1 hk
    generalize rk tb v = r at hcx
    by_cases hneg : Int.tmod v (tb.length : Int) < 0
    · have ht1 := ht.1 hneg
      have hw : wrap64 (Int.tmod v (tb.length : Int) + (tb.length : Int)) = Int.tmod v (tb.length : Int) + (tb.length : Int) := by unfold wrap64; omega
      clear ht
      go_enter Try.func12, Try.ntmps12
      go_wp2
      go_ret
      exact ⟨rfl, rfl⟩
    · have ht1 := ht.2 hneg
      clear ht
      go_enter Try.func12, Try.ntmps12
      go_wp2
      go_ret
      exact ⟨rfl, rfl⟩

set_option maxHeartbeats 400000 in
/-- The closure of impl.byRank. -/
theorem cmp_calls (w : World) (B bx : Nat) (tv : Value) (tb : List Int) (x y : Int) (hbx : w.cell? ⟨bx, 0, none⟩ = some tv) (hs : SeesI w B tv tb) (hz : tb.length ≤ 1000000000000000000) :
    Calls Try.prog 34 #[.int .i64 x, .int .i64 y, .pointer (some ⟨bx, 0, none⟩)] w fun e w' => e = .returned (.int .i64 (ck tb x y)) ∧ w = w' := by
  have hx := Lib.hid (rank_calls w B tv tb x hs hz)
  have hy := Lib.hid (rank_calls w B tv tb y hs hz)
  obtain ⟨A, c, rfl, _, _⟩ := hs.form
  unfold ck
  clear hs
  generalize rk tb x = a at hx
  generalize rk tb y = b at hy
  by_cases h1 : a < b
  · rw [if_pos h1]
    go_enter Try.func34, Try.ntmps34
    go_wp2_with fail
    refine hx.out.mono ?_
    rintro e w1 ⟨rfl, rfl⟩
    go_wp2_with fail
    refine hy.out.mono ?_
    rintro e w1 ⟨rfl, rfl⟩
    go_wp2
    go_ret
    exact ⟨rfl, rfl⟩
  · rw [if_neg h1]
    by_cases h2 : b < a
    · rw [if_pos h2]
      go_enter Try.func34, Try.ntmps34
      go_wp2_with fail
      refine hx.out.mono ?_
      rintro e w1 ⟨rfl, rfl⟩
      go_wp2_with fail
      refine hy.out.mono ?_
      rintro e w1 ⟨rfl, rfl⟩
      go_wp2
      go_ret
      exact ⟨rfl, rfl⟩
    · rw [if_neg h2]
      go_enter Try.func34, Try.ntmps34
      go_wp2_with fail
      refine hx.out.mono ?_
      rintro e w1 ⟨rfl, rfl⟩
      go_wp2_with fail
      refine hy.out.mono ?_
      rintro e w1 ⟨rfl, rfl⟩
      go_wp2
      go_ret
      exact ⟨rfl, rfl⟩

/-- impl.byRank -/
theorem byRank_calls (A : Option Addr) (len cap : Nat) (w : World) :
    Calls Try.prog 23 #[.slice A len cap] w fun e w' =>
      e = .returned (.func (.func 34) #[] #[.pointer (some ⟨w.heap.size, 0, none⟩)]) ∧ w.alloc (.cells #[.slice A len cap] 23) = w' := by
  go_enter Try.func23, Try.ntmps23
  go_wp2
  go_ret
  exact ⟨rfl, rfl⟩

theorem calls_quiet1 {P : Program} {f : FuncId} {args : Array Value} {w : World} {q n : Nat} {v : Value}
    (h : Calls P f args (w.drewN (q + n)) fun e w' => e = .returned v ∧ w.drewN (q + n) = w') : Calls P f args (w.drewN (q + n)) fun e w'' => e = .returned v ∧ ∃ m, w'' = w.drewN (q + m) :=
  h.mono fun _ _ ⟨he, hm⟩ => ⟨he, n, hm.symm⟩

set_option maxHeartbeats 1000000 in
/-- spec.RanksRise -/
theorem ranksRise_yes (w : World) (B : Nat) (lv tv : Value) (xs tb : List Int) (hl : SeesI w B lv xs) (hs : SeesI w B tv tb) (hz : tb.length ≤ 1000000000000000000) (hzl : xs.length ≤ 1000000000000000000) (hr : ∀ k, 0 < k → k < xs.length → rk tb (xs[k - 1]?.getD 0) ≤ rk tb (xs[k]?.getD 0)) :
    Calls Try.prog 16 #[lv, tv] w fun e w' => e = .returned (.bool true) ∧ ∃ q, w' = w.drewN q := by
  obtain ⟨A, c, rfl, _, hx⟩ := hl.form
  have hR := Lib.hid (fun n v => specRank_calls (w.drewN n) B tv tb v (hs.drewN n) hz)
  have Hr := Lib.hid hr
  clear hl hs hr
  go_enter Try.func16, Try.ntmps16
  go_wp2
  go_loopw [5] (fun i wr => ∃ k : Nat, 0 < k ∧ k ≤ xs.length + 1 ∧ i = .int .i64 k ∧ ∃ q, wr = w.drewN q) (fun i _ => xs.length + 1 - (intOf i).toNat)
  case atStart => exact ⟨1, by omega, by omega, rfl, 0, rfl⟩
  case round =>
    obtain ⟨k, hk0, hk, rfl, q, rfl⟩ := hrel
    by_cases hlt : k < xs.length
    · obtain ⟨b, off, rfl, _, hc⟩ := hx (by omega)
      have e1 := hc k hlt
      have e2 := hc (k - 1) (by omega)
      have hri := Hr.out k hk0 hlt
      clear hc hx
      generalize xs[k]?.getD 0 = u at e1 hri
      generalize xs[k - 1]?.getD 0 = u' at e2 hri
      have hri' : ¬ rk tb u < rk tb u' := by omega
      clear hri
      have h0' : (0 : Int) < (k : Int) := by omega
      go_wp2
      go_quiet ((go_at_call 12; exact calls_quiet1 (hR.out _ _)))
      go_wp2
      go_roundw
      case rel => exact ⟨k + 1, by omega, by omega, by go_num, _, rfl⟩
      case measure => simp [intOf]; omega
    · clear hx
      go_wp2
      go_ret
      exact ⟨rfl, q, rfl⟩

end Go.Proofs.Ytpnlindmcomikaa
