/-
  The contract of slices.Chunk at ints: an iterator that hands over the parts, and stops when told to; of a size below 1 it panics. No statement is proved here.
-/
import Derived.Test.YtfagmnjhpipndaaAppendSeqL
import Derived.Test.YtfagmnjhpipndaaLists
import Derived.Test.YtfagmnjhpipndaaDrawn
import Derived.Sort.QuietIn
namespace Go.Proofs.Ytfagmnjhpipndaa
open Go.RowKit Go.Shelf
attribute [local go_sem] Oper.semAt_some

/-- The k-th part. -/
def partS (b off len n k : Nat) : Sl := (some ⟨b, off + k * n, none⟩, min n (len - k * n), min n (len - k * n))
/-- How many parts there are. -/
def cntS (len n : Nat) : Nat := (len + n - 1) / n
def partsS (b off len n : Nat) : List Sl := (List.range (cntS len n)).map (partS b off len n)
theorem cntS_lt {len n k : Nat} (hn : 0 < n) : k < cntS len n ↔ k * n < len := by
  unfold cntS
  rw [Nat.lt_div_iff_mul_lt hn]
  constructor <;> intro h <;> omega
theorem partsS_length (b off len n : Nat) : (partsS b off len n).length = cntS len n := by simp [partsS]
theorem partsS_snoc (b off len n k : Nat) (h : k < cntS len n) : (partsS b off len n).take (k + 1) = (partsS b off len n).take k ++ [partS b off len n k] := by
  rw [List.take_succ_eq_append_getElem (by rw [partsS_length]; exact h)]
  simp [partsS]

set_option maxRecDepth 100000 in
set_option maxHeartbeats 1000000 in
/-- The closure of slices.Chunk, whatever the rounds do that keep what lay below n₀. -/
theorem chunk1_in (n : Nat) (hn : 1 ≤ n) (l Bs Bn n₀ c b off len m : Nat) (A : Option Addr) (hm : 0 < m) (hm63 : m ≤ 9223372036854775807) (hz : len ≤ 1000000000000000000) (hA : 0 < len → A = some ⟨b, off, none⟩) (hc : len ≤ c) (J Jx : List Sl → World → Prop)
    (hY : ∀ pre x W, J pre W → pre.length < cntS len m → YieldAt Fence.wide (n - 1) Try.prog l #[encS x] W fun e W' =>
      (e = .returned (.bool true) ∧ J (pre ++ [x]) W' ∧ Below n₀ W W') ∨ (e = .returned (.bool false) ∧ Jx (pre ++ [x]) W'))
    (W : World) (hBs : W.cell? ⟨Bs, 0, none⟩ = some (.slice A len c)) (hBn : W.cell? ⟨Bn, 0, none⟩ = some (.int .i64 (m : Int))) (hs0 : Bs < n₀) (hn0 : Bn < n₀) (hJd : ∀ pre W, J pre W → J pre W.drew) (h0 : J [] W) :
    CallsIn Fence.wide n Try.prog 72 #[.func (.yield l) #[] #[], .pointer (some ⟨Bs, 0, none⟩), .pointer (some ⟨Bn, 0, none⟩)] W fun e W' => (∃ v, e = .returned v) ∧
      ((∃ ys, ys = partsS b off len m ∧ J ys W') ∨ (∃ pre, pre <+: partsS b off len m ∧ Jx pre W')) := by
  refine callsIn_of_wp Try.func72 rfl trivial ?_ rfl
  simp only [Try.ntmps72, List.size_toArray, List.length_cons, List.length_nil, Nat.reduceAdd, Nat.reduceSub, Array.replicate_succ, Array.replicate_zero, List.push_toArray, List.append_toArray, List.nil_append, List.cons_append]
  gi_wp2
  gi_loopw [4] (fun i wr => ∃ k : Nat, k ≤ cntS len m ∧ i = .int .i64 ((k * m : Nat) : Int) ∧ J ((partsS b off len m).take k) wr ∧ Below n₀ W wr)
    (fun i _ => len + m - (intOf i).toNat)
  case atStart => exact ⟨0, Nat.zero_le _, by simp, h0, Below.refl _ _⟩
  case round =>
    obtain ⟨k, hk, rfl, hJs, hnx⟩ := hrel
    have b1 := (hnx.cell (p := ⟨Bs, 0, none⟩) hs0).trans hBs
    have b2 := (hnx.cell (p := ⟨Bn, 0, none⟩) hn0).trans hBn
    by_cases hlt : k < cntS len m
    · have hkm := (cntS_lt hm).1 hlt
      obtain rfl := hA (by omega)
      have hsn := Lib.hid (partsS_snoc b off len m k hlt)
      have hov : k * m + m ≤ 9223372036854775807 := by
        rcases Nat.eq_zero_or_pos k with h | h
        · subst h; omega
        · have := Nat.le_mul_of_pos_left m h; omega
      have hk1 : (k + 1) * m = k * m + m := Nat.succ_mul k m
      have Hk1 := Lib.hid hk1
      have hpart : partS b off len m k = (some ⟨b, off + k * m, none⟩, min m (len - k * m), min m (len - k * m)) := rfl
      have Hpart := Lib.hid hpart
      clear hpart hk1
      generalize k * m = i at hkm hov Hk1 Hpart
      gi_wp2_with fail
      rcases Nat.lt_trichotomy m (len - i) with hcm | hcm | hcm
      · have j1 : (m : Int) < (len : Int) - (i : Int) := by omega
        obtain ⟨fn, tmps, assign, body, hy, hR⟩ := hY _ (some ⟨b, off + i, none⟩, m, m) wr.drew (hJd _ _ hJs) (by rw [List.length_take, partsS_length]; omega)
        have HR := Lib.hid hR
        have hpt := Lib.hid (show partS b off len m k = (some ⟨b, off + i, none⟩, m, m) by rw [Hpart.out, show min m (len - i) = m by omega])
        clear hR hY
        have i1 : (i : Int) < (len : Int) := by omega
        have i2 : (i : Int) ≤ (c : Int) := by omega
        gi_region
        gi_wp2
        refine HR.out.mono ?_
        rintro e W3 (⟨rfl, hJ3, hk3⟩ | ⟨rfl, hJx3⟩)
        · have b3 : W3.cell? ⟨Bn, 0, none⟩ = some (.int .i64 (m : Int)) := (hk3.cell (p := ⟨Bn, 0, none⟩) hn0).trans b2
          gi_wp2
          go_roundw
          case rel => exact ⟨k + 1, by omega, by rw [Hk1.out]; go_num, by rw [hsn.out, hpt.out]; exact hJ3, (below_drew hnx).trans hk3⟩
          case measure => simp [intOf]; omega
        · gi_wp2
          refine bodyPost_ret (results_none rfl _ _ _) rfl ?_
          exact ⟨⟨_, rfl⟩, .inr ⟨_, by rw [← hpt.out, ← hsn.out]; exact List.take_prefix _ _, hJx3⟩⟩
      · have j1 : (m : Int) ≤ (len : Int) - (i : Int) := by omega
        have j2 : (len : Int) - (i : Int) ≤ (m : Int) := by omega
        have k1 : m ≤ len - i := by omega
        have k2 : len - i ≤ m := by omega
        clear hcm
        obtain ⟨fn, tmps, assign, body, hy, hR⟩ := hY _ (some ⟨b, off + i, none⟩, m, m) wr.drew (hJd _ _ hJs) (by rw [List.length_take, partsS_length]; omega)
        have HR := Lib.hid hR
        have hpt := Lib.hid (show partS b off len m k = (some ⟨b, off + i, none⟩, m, m) by rw [Hpart.out, show min m (len - i) = m by omega])
        clear hR hY
        have i1 : (i : Int) < (len : Int) := by omega
        have i2 : (i : Int) ≤ (c : Int) := by omega
        gi_region
        gi_wp2
        refine HR.out.mono ?_
        rintro e W3 (⟨rfl, hJ3, hk3⟩ | ⟨rfl, hJx3⟩)
        · have b3 : W3.cell? ⟨Bn, 0, none⟩ = some (.int .i64 (m : Int)) := (hk3.cell (p := ⟨Bn, 0, none⟩) hn0).trans b2
          gi_wp2
          go_roundw
          case rel => exact ⟨k + 1, by omega, by rw [Hk1.out]; go_num, by rw [hsn.out, hpt.out]; exact hJ3, (below_drew hnx).trans hk3⟩
          case measure => simp [intOf]; omega
        · gi_wp2
          refine bodyPost_ret (results_none rfl _ _ _) rfl ?_
          exact ⟨⟨_, rfl⟩, .inr ⟨_, by rw [← hpt.out, ← hsn.out]; exact List.take_prefix _ _, hJx3⟩⟩
      · have j1 : (len : Int) - (i : Int) < (m : Int) := by omega
        obtain ⟨fn, tmps, assign, body, hy, hR⟩ := hY _ (some ⟨b, off + i, none⟩, (len - i), (len - i)) wr.drew (hJd _ _ hJs) (by rw [List.length_take, partsS_length]; omega)
        have HR := Lib.hid hR
        have hpt := Lib.hid (show partS b off len m k = (some ⟨b, off + i, none⟩, (len - i), (len - i)) by rw [Hpart.out, show min m (len - i) = (len - i) by omega])
        clear hR hY
        have i1 : (i : Int) < (len : Int) := by omega
        have i2 : (i : Int) ≤ (c : Int) := by omega
        gi_region
        gi_wp2
        refine HR.out.mono ?_
        rintro e W3 (⟨rfl, hJ3, hk3⟩ | ⟨rfl, hJx3⟩)
        · have b3 : W3.cell? ⟨Bn, 0, none⟩ = some (.int .i64 (m : Int)) := (hk3.cell (p := ⟨Bn, 0, none⟩) hn0).trans b2
          gi_wp2
          go_roundw
          case rel => exact ⟨k + 1, by omega, by rw [Hk1.out]; go_num, by rw [hsn.out, hpt.out]; exact hJ3, (below_drew hnx).trans hk3⟩
          case measure => simp [intOf]; omega
        · gi_wp2
          refine bodyPost_ret (results_none rfl _ _ _) rfl ?_
          exact ⟨⟨_, rfl⟩, .inr ⟨_, by rw [← hpt.out, ← hsn.out]; exact List.take_prefix _ _, hJx3⟩⟩
    · obtain rfl : k = cntS len m := by omega
      have hge : len ≤ cntS len m * m := by
        have := (cntS_lt (len := len) (k := cntS len m) hm).2
        rcases Nat.lt_or_ge (cntS len m * m) len with h | h
        · exact absurd (this h) (Nat.lt_irrefl _)
        · exact h
      rw [List.take_of_length_le (by rw [partsS_length]; exact Nat.le_refl _)] at hJs
      clear hA hY
      generalize cntS len m * m = i at hge
      gi_wp2
      go_end0
      exact ⟨⟨_, rfl⟩, .inl ⟨_, rfl, hJs⟩⟩

/-- slices.Chunk: the slice and the size are boxed; the function value has the boxes. -/
theorem chunk_calls (A : Option Addr) (len cap m : Nat) (hm : 0 < m) (w : World) :
    Calls Try.prog 56 #[.slice A len cap, .int .i64 (m : Int)] w fun e w' =>
      e = .returned (.func (.func 72) #[] #[.pointer (some ⟨w.heap.size, 0, none⟩), .pointer (some ⟨w.heap.size + 1, 0, none⟩)]) ∧ (w.alloc (.cells #[.slice A len cap] 25)).alloc (.cells #[.int .i64 (m : Int)] 3) = w' := by
  have h1 : ¬ (m : Int) < 1 := by omega
  go_enter Try.func56, Try.ntmps56
  go_wp2
  go_ret
  exact ⟨rfl, rfl⟩

/-- A size below 1. -/
theorem chunk_panics (A : Option Addr) (len cap : Nat) (m : Int) (hm : m < 1) (w : World) :
    Calls Try.prog 56 #[.slice A len cap, .int .i64 m] w fun e w' =>
      (∃ u pv, e = .panicked [{ v := .iface u pv, recovered := false }]) ∧ Below w.heap.size w w' := by
  go_enter Try.func56, Try.ntmps56
  go_wp2
  exact ⟨rfl, ⟨_, _, rfl⟩, ((Below.refl _ w).alloc (Nat.le_refl _) _).alloc (by simp) _⟩

/-- What slices.Chunk hands back goes over the parts in order, or over a beginning of them. -/
theorem chunk_stops (n : Nat) (hn : 1 ≤ n) (Bs Bn n₀ b off len c m : Nat) (A : Option Addr) (hm : 0 < m) (hm63 : m ≤ 9223372036854775807) (hz : len ≤ 1000000000000000000) (hA : 0 < len → A = some ⟨b, off, none⟩) (hc : len ≤ c) (w : World) (hBs : Bs < w.heap.size) (hBn : Bn < w.heap.size)
    (hs0 : Bs < n₀) (hn0 : Bn < n₀) (hcs : w.cell? ⟨Bs, 0, none⟩ = some (.slice A len c)) (hcn : w.cell? ⟨Bn, 0, none⟩ = some (.int .i64 (m : Int))) :
    SeqStopsK Fence.wide n Try.prog 72 #[.pointer (some ⟨Bs, 0, none⟩), .pointer (some ⟨Bn, 0, none⟩)] (fun x : Sl => #[encS x]) (Below n₀) (fun ys => ys = partsS b off len m) (fun pre => pre <+: partsS b off len m) (cntS len m) w := fun l J Jx W hW hJ _ hY h0 =>
  chunk1_in n hn l Bs Bn n₀ c b off len m A hm hm63 hz hA hc J Jx hY W ((hW.cell (p := ⟨Bs, 0, none⟩) hBs).trans hcs) ((hW.cell (p := ⟨Bn, 0, none⟩) hBn).trans hcn) hs0 hn0
    (fun pre W1 hj => hJ pre W1 W1.drew none hj ⟨rfl, rfl, rfl, Nat.le_refl _, fun _ _ _ => rfl⟩ (fun r e => by cases e)) h0

end Go.Proofs.Ytfagmnjhpipndaa
