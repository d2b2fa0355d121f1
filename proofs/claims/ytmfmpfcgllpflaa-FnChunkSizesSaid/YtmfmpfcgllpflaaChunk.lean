/-
  The contract of slices.Chunk at ints: an iterator that hands over the parts, and stops when told to; of a size below 1 it panics. No statement is proved here.
-/
import Derived.Test.YtmfmpfcgllpflaaAppendSeqL
import Derived.Test.YtmfmpfcgllpflaaLists
import Derived.Test.YtmfmpfcgllpflaaDrawn
import Derived.Sort.QuietIn
namespace Go.Proofs.Ytmfmpfcgllpflaa
open Go.RowKit Go.Shelf
attribute [local go_sem] Oper.semAt_some

/-- The k-th part. -/
def partS (b off len n k : Nat) : Sl := (some ⟨b, off + k * n, none⟩, min n (len - k * n), min n (len - k * n))
/-- How many parts there are. -/
def cntS (len n : Nat) : Nat := (len + n - 1) / n
def partsS (b off len n : Nat) : List Sl := (List.range (cntS len n)).map (partS b off len n)
theorem cntS_lt {len n k : Nat} (hn : 0 < n) : k < cntS len n ↔ k * n < len := by
  unfold cntS
  rw [Nat.lt_div_iff_mul_lt hn]
  constructor <;> intro h <;> omega
theorem partsS_length (b off len n : Nat) : (partsS b off len n).length = cntS len n := by simp [partsS]
theorem partsS_snoc (b off len n k : Nat) (h : k < cntS len n) : (partsS b off len n).take (k + 1) = (partsS b off len n).take k ++ [partS b off len n k] := by
  rw [List.take_succ_eq_append_getElem (by rw [partsS_length]; exact h)]
  simp [partsS]

/-- Two boxes read as they read. -/
def Keep2 (p q : Nat) (W W' : World) : Prop := W'.cell? ⟨p, 0, none⟩ = W.cell? ⟨p, 0, none⟩ ∧ W'.cell? ⟨q, 0, none⟩ = W.cell? ⟨q, 0, none⟩
theorem Keep2.refl (p q : Nat) (W : World) : Keep2 p q W W := ⟨rfl, rfl⟩
theorem Keep2.trans {p q : Nat} {A B C : World} (h : Keep2 p q A B) (k : Keep2 p q B C) : Keep2 p q A C := ⟨k.1.trans h.1, k.2.trans h.2⟩
theorem Keep2.drew {p q : Nat} {A B : World} (h : Keep2 p q A B) : Keep2 p q A B.drew := h
theorem keep2_of_below {p q n₀ : Nat} {A B : World} (hp : p < n₀) (hq : q < n₀) (h : Below n₀ A B) : Keep2 p q A B := ⟨h.cell (p := ⟨p, 0, none⟩) hp, h.cell (p := ⟨q, 0, none⟩) hq⟩
theorem keep2_grown {p q : Nat} {A B : World} {row : Option Nat} (hg : A.grownBy B row) (hp : p < A.heap.size) (hq : q < A.heap.size) (hrp : some p ≠ row) (hrq : some q ≠ row) : Keep2 p q A B :=
  ⟨World.cell?_of_block (a := ⟨p, 0, none⟩) (hg.block p hp hrp), World.cell?_of_block (a := ⟨q, 0, none⟩) (hg.block q hq hrq)⟩

set_option maxRecDepth 100000 in
set_option maxHeartbeats 1000000 in
/-- The closure of slices.Chunk, whatever the rounds do that keep its two boxes. -/
theorem chunk1_in (n : Nat) (hn : 1 ≤ n) (l Bs Bn c b off len m : Nat) (A : Option Addr) (hm : 0 < m) (hm63 : m ≤ 9223372036854775807) (hz : len ≤ 1000000000000000000) (hA : 0 < len → A = some ⟨b, off, none⟩) (hc : len ≤ c) (J Jx : List Sl → World → Prop)
    (hY : ∀ pre x W, J pre W → pre.length < cntS len m → x = partS b off len m pre.length → YieldAt Fence.wide (n - 1) Try.prog l #[encS x] W fun e W' =>
      (e = .returned (.bool true) ∧ J (pre ++ [x]) W' ∧ Keep2 Bs Bn W W') ∨ (e = .returned (.bool false) ∧ Jx (pre ++ [x]) W'))
    (W : World) (hBs : W.cell? ⟨Bs, 0, none⟩ = some (.slice A len c)) (hBn : W.cell? ⟨Bn, 0, none⟩ = some (.int .i64 (m : Int))) (hJd : ∀ pre W, J pre W → J pre W.drew) (h0 : J [] W) :
    CallsIn Fence.wide n Try.prog 47 #[.func (.yield l) #[] #[], .pointer (some ⟨Bs, 0, none⟩), .pointer (some ⟨Bn, 0, none⟩)] W fun e W' => (∃ v, e = .returned v) ∧
      ((∃ ys, ys = partsS b off len m ∧ J ys W') ∨ (∃ pre, pre <+: partsS b off len m ∧ Jx pre W')) := by
  refine callsIn_of_wp Try.func47 rfl trivial ?_ rfl
  simp only [Try.ntmps47, List.size_toArray, List.length_cons, List.length_nil, Nat.reduceAdd, Nat.reduceSub, Array.replicate_succ, Array.replicate_zero, List.push_toArray, List.append_toArray, List.nil_append, List.cons_append]
  gi_wp2
  gi_loopw [4] (fun i wr => ∃ k : Nat, k ≤ cntS len m ∧ i = .int .i64 ((k * m : Nat) : Int) ∧ J ((partsS b off len m).take k) wr ∧ Keep2 Bs Bn W wr)
    (fun i _ => len + m - (intOf i).toNat)
  case atStart => exact ⟨0, Nat.zero_le _, by simp, h0, Keep2.refl _ _ _⟩
  case round =>
    obtain ⟨k, hk, rfl, hJs, hnx⟩ := hrel
    have b1 := hnx.1.trans hBs
    have b2 := hnx.2.trans hBn
    have Hnx := Lib.hid hnx
    clear hnx
    by_cases hlt : k < cntS len m
    · have hkm := (cntS_lt hm).1 hlt
      obtain rfl := hA (by omega)
      have hsn := Lib.hid (partsS_snoc b off len m k hlt)
      have hov : k * m + m ≤ 9223372036854775807 := by
        rcases Nat.eq_zero_or_pos k with h | h
        · subst h; omega
        · have := Nat.le_mul_of_pos_left m h; omega
      have hk1 : (k + 1) * m = k * m + m := Nat.succ_mul k m
      have Hk1 := Lib.hid hk1
      have hpart : partS b off len m k = (some ⟨b, off + k * m, none⟩, min m (len - k * m), min m (len - k * m)) := rfl
      have Hpart := Lib.hid hpart
      clear hpart hk1
      generalize k * m = i at hkm hov Hk1 Hpart
      gi_wp2_with fail
      rcases Nat.lt_trichotomy m (len - i) with hcm | hcm | hcm
      · have j1 : (m : Int) < (len : Int) - (i : Int) := by omega
        obtain ⟨fn, tmps, assign, body, hy, hR⟩ := hY _ (some ⟨b, off + i, none⟩, m, m) wr.drew (hJd _ _ hJs) (by rw [List.length_take, partsS_length]; omega) (by rw [List.length_take, partsS_length, Nat.min_eq_left (Nat.le_of_lt hlt), Hpart.out]; simp only [Prod.mk.injEq, true_and]; omega)
        have HR := Lib.hid hR
        have hpt := Lib.hid (show partS b off len m k = (some ⟨b, off + i, none⟩, m, m) by rw [Hpart.out, show min m (len - i) = m by omega])
        clear hR hY
        have i1 : (i : Int) < (len : Int) := by omega
        have i2 : (i : Int) ≤ (c : Int) := by omega
        gi_region
        gi_wp2
        refine HR.out.mono ?_
        rintro e W3 (⟨rfl, hJ3, hk3⟩ | ⟨rfl, hJx3⟩)
        · have b3 : W3.cell? ⟨Bn, 0, none⟩ = some (.int .i64 (m : Int)) := hk3.2.trans b2
          have Hk3 := Lib.hid hk3
          clear hk3
          gi_wp2
          go_roundw
          case rel => exact ⟨k + 1, by omega, by rw [Hk1.out]; go_num, by rw [hsn.out, hpt.out]; exact hJ3, Hnx.out.drew.trans Hk3.out⟩
          case measure => simp [intOf]; omega
        · gi_wp2
          refine bodyPost_ret (results_none rfl _ _ _) rfl ?_
          exact ⟨⟨_, rfl⟩, .inr ⟨_, by rw [← hpt.out, ← hsn.out]; exact List.take_prefix _ _, hJx3⟩⟩
      · have j1 : (m : Int) ≤ (len : Int) - (i : Int) := by omega
        have j2 : (len : Int) - (i : Int) ≤ (m : Int) := by omega
        have k1 : m ≤ len - i := by omega
        have k2 : len - i ≤ m := by omega
        clear hcm
        obtain ⟨fn, tmps, assign, body, hy, hR⟩ := hY _ (some ⟨b, off + i, none⟩, m, m) wr.drew (hJd _ _ hJs) (by rw [List.length_take, partsS_length]; omega) (by rw [List.length_take, partsS_length, Nat.min_eq_left (Nat.le_of_lt hlt), Hpart.out]; simp only [Prod.mk.injEq, true_and]; omega)
        have HR := Lib.hid hR
        have hpt := Lib.hid (show partS b off len m k = (some ⟨b, off + i, none⟩, m, m) by rw [Hpart.out, show min m (len - i) = m by omega])
        clear hR hY
        have i1 : (i : Int) < (len : Int) := by omega
        have i2 : (i : Int) ≤ (c : Int) := by omega
        gi_region
        gi_wp2
        refine HR.out.mono ?_
        rintro e W3 (⟨rfl, hJ3, hk3⟩ | ⟨rfl, hJx3⟩)
        · have b3 : W3.cell? ⟨Bn, 0, none⟩ = some (.int .i64 (m : Int)) := hk3.2.trans b2
          have Hk3 := Lib.hid hk3
          clear hk3
          gi_wp2
          go_roundw
          case rel => exact ⟨k + 1, by omega, by rw [Hk1.out]; go_num, by rw [hsn.out, hpt.out]; exact hJ3, Hnx.out.drew.trans Hk3.out⟩
          case measure => simp [intOf]; omega
        · gi_wp2
          refine bodyPost_ret (results_none rfl _ _ _) rfl ?_
          exact ⟨⟨_, rfl⟩, .inr ⟨_, by rw [← hpt.out, ← hsn.out]; exact List.take_prefix _ _, hJx3⟩⟩
      · have j1 : (len : Int) - (i : Int) < (m : Int) := by omega
        obtain ⟨fn, tmps, assign, body, hy, hR⟩ := hY _ (some ⟨b, off + i, none⟩, (len - i), (len - i)) wr.drew (hJd _ _ hJs) (by rw [List.length_take, partsS_length]; omega) (by rw [List.length_take, partsS_length, Nat.min_eq_left (Nat.le_of_lt hlt), Hpart.out]; simp only [Prod.mk.injEq, true_and]; omega)
        have HR := Lib.hid hR
        have hpt := Lib.hid (show partS b off len m k = (some ⟨b, off + i, none⟩, (len - i), (len - i)) by rw [Hpart.out, show min m (len - i) = (len - i) by omega])
        clear hR hY
        have i1 : (i : Int) < (len : Int) := by omega
        have i2 : (i : Int) ≤ (c : Int) := by omega
        gi_region
        gi_wp2
        refine HR.out.mono ?_
        rintro e W3 (⟨rfl, hJ3, hk3⟩ | ⟨rfl, hJx3⟩)
        · have b3 : W3.cell? ⟨Bn, 0, none⟩ = some (.int .i64 (m : Int)) := hk3.2.trans b2
          have Hk3 := Lib.hid hk3
          clear hk3
          gi_wp2
          go_roundw
          case rel => exact ⟨k + 1, by omega, by rw [Hk1.out]; go_num, by rw [hsn.out, hpt.out]; exact hJ3, Hnx.out.drew.trans Hk3.out⟩
          case measure => simp [intOf]; omega
        · gi_wp2
          refine bodyPost_ret (results_none rfl _ _ _) rfl ?_
          exact ⟨⟨_, rfl⟩, .inr ⟨_, by rw [← hpt.out, ← hsn.out]; exact List.take_prefix _ _, hJx3⟩⟩
    · obtain rfl : k = cntS len m := by omega
      have hge : len ≤ cntS len m * m := by
        have := (cntS_lt (len := len) (k := cntS len m) hm).2
        rcases Nat.lt_or_ge (cntS len m * m) len with h | h
        · exact absurd (this h) (Nat.lt_irrefl _)
        · exact h
      rw [List.take_of_length_le (by rw [partsS_length]; exact Nat.le_refl _)] at hJs
      clear hA hY
      generalize cntS len m * m = i at hge
      gi_wp2
      go_end0
      exact ⟨⟨_, rfl⟩, .inl ⟨_, rfl, hJs⟩⟩

/-- slices.Chunk: the slice and the size are boxed; the function value has the boxes. -/
theorem chunk_calls (A : Option Addr) (len cap m : Nat) (hm : 0 < m) (w : World) :
    Calls Try.prog 33 #[.slice A len cap, .int .i64 (m : Int)] w fun e w' =>
      e = .returned (.func (.func 47) #[] #[.pointer (some ⟨w.heap.size, 0, none⟩), .pointer (some ⟨w.heap.size + 1, 0, none⟩)]) ∧ (w.alloc (.cells #[.slice A len cap] 23)).alloc (.cells #[.int .i64 (m : Int)] 3) = w' := by
  have h1 : ¬ (m : Int) < 1 := by omega
  go_enter Try.func33, Try.ntmps33
  go_wp2
  go_ret
  exact ⟨rfl, rfl⟩

/-- A size below 1. -/
theorem chunk_panics (A : Option Addr) (len cap : Nat) (m : Int) (hm : m < 1) (w : World) :
    Calls Try.prog 33 #[.slice A len cap, .int .i64 m] w fun e w' =>
      (∃ u pv, e = .panicked [{ v := .iface u pv, recovered := false }]) ∧ Below w.heap.size w w' := by
  go_enter Try.func33, Try.ntmps33
  go_wp2
  exact ⟨rfl, ⟨_, _, rfl⟩, ((Below.refl _ w).alloc (Nat.le_refl _) _).alloc (by simp) _⟩

/-- What slices.Chunk hands back goes over the parts in order, or over a beginning of them. -/
theorem chunk_stops (n : Nat) (hn : 1 ≤ n) (Bs Bn n₀ b off len c m : Nat) (A : Option Addr) (hm : 0 < m) (hm63 : m ≤ 9223372036854775807) (hz : len ≤ 1000000000000000000) (hA : 0 < len → A = some ⟨b, off, none⟩) (hc : len ≤ c) (w : World) (hBs : Bs < w.heap.size) (hBn : Bn < w.heap.size)
    (hs0 : Bs < n₀) (hn0 : Bn < n₀) (hcs : w.cell? ⟨Bs, 0, none⟩ = some (.slice A len c)) (hcn : w.cell? ⟨Bn, 0, none⟩ = some (.int .i64 (m : Int))) :
    SeqStopsK Fence.wide n Try.prog 47 #[.pointer (some ⟨Bs, 0, none⟩), .pointer (some ⟨Bn, 0, none⟩)] (fun x : Sl => #[encS x]) (Below n₀) (fun ys => ys = partsS b off len m) (fun pre => pre <+: partsS b off len m) (cntS len m) w := fun l J Jx W hW hJ _ hY h0 =>
  chunk1_in n hn l Bs Bn c b off len m A hm hm63 hz hA hc J Jx (fun pre x W1 h1 h2 _ => (hY pre x W1 h1 h2).mono fun e W2 h3 => h3.imp (fun k => ⟨k.1, k.2.1, keep2_of_below hs0 hn0 k.2.2⟩) id) W ((hW.cell (p := ⟨Bs, 0, none⟩) hBs).trans hcs) ((hW.cell (p := ⟨Bn, 0, none⟩) hBn).trans hcn)
    (fun pre W1 hj => hJ pre W1 W1.drew none hj ⟨rfl, rfl, rfl, Nat.le_refl _, fun _ _ _ => rfl⟩ (fun r e => by cases e)) h0

/-- The same, the parts told by their numbers. -/
theorem chunk_numbered (n : Nat) (hn : 1 ≤ n) (Bs Bn b off len c m : Nat) (A : Option Addr) (hm : 0 < m) (hm63 : m ≤ 9223372036854775807) (hz : len ≤ 1000000000000000000) (hA : 0 < len → A = some ⟨b, off, none⟩) (hc : len ≤ c) (w : World) (hBs : Bs < w.heap.size) (hBn : Bn < w.heap.size)
    (hcs : w.cell? ⟨Bs, 0, none⟩ = some (.slice A len c)) (hcn : w.cell? ⟨Bn, 0, none⟩ = some (.int .i64 (m : Int))) :
    SeqStopsK Fence.wide n Try.prog 47 #[.pointer (some ⟨Bs, 0, none⟩), .pointer (some ⟨Bn, 0, none⟩)] (fun k : Fin (cntS len m) => #[encS (partS b off len m k.1)]) (Keep2 Bs Bn)
      (fun ys => ys.map Fin.val = List.range (cntS len m)) (fun pre => pre.map Fin.val <+: List.range (cntS len m)) (cntS len m) w := fun l J Jx W hW hJ _ hY h0 => by
  have hinj : ∀ x y : Nat, partS b off len m x = partS b off len m y → x = y := fun x y e => by
    simp only [partS, Prod.mk.injEq, Option.some.injEq, Addr.mk.injEq] at e
    have e1 : x * m = y * m := by omega
    exact Nat.eq_of_mul_eq_mul_right hm e1
  have hmap : ∀ pre : List (Fin (cntS len m)), pre.map (fun k => partS b off len m k.1) = (pre.map Fin.val).map (partS b off len m) := fun pre => by simp
  refine (chunk1_in n hn l Bs Bn c b off len m A hm hm63 hz hA hc (fun ys W => ∃ pre : List (Fin (cntS len m)), ys = pre.map (fun k => partS b off len m k.1) ∧ J pre W) (fun ys W => ∃ pre : List (Fin (cntS len m)), ys = pre.map (fun k => partS b off len m k.1) ∧ Jx pre W) ?_ W
    ((hW.cell (p := ⟨Bs, 0, none⟩) hBs).trans hcs) ((hW.cell (p := ⟨Bn, 0, none⟩) hBn).trans hcn)
    (fun ys W1 ⟨pre, e, hj⟩ => ⟨pre, e, hJ pre W1 W1.drew none hj ⟨rfl, rfl, rfl, Nat.le_refl _, fun _ _ _ => rfl⟩ (fun r e => by cases e)⟩) ⟨[], rfl, h0⟩).mono ?_
  · rintro ys x W1 ⟨pre, rfl, hj⟩ hlt hx
    rw [List.length_map] at hlt hx
    obtain ⟨fn, tmps, assign, body, hy, hR⟩ := hY pre ⟨pre.length, hlt⟩ W1 hj hlt
    subst hx
    refine ⟨fn, tmps, assign, body, hy, hR.mono ?_⟩
    rintro e W' (⟨rfl, h1, h2⟩ | ⟨rfl, h1⟩)
    · exact .inl ⟨rfl, ⟨_, by simp, h1⟩, h2⟩
    · exact .inr ⟨rfl, ⟨_, by simp, h1⟩⟩
  · rintro e W' ⟨hv, ⟨ys, rfl, pre, e1, hj⟩ | ⟨ys, hp, pre, rfl, hj⟩⟩
    · refine ⟨hv, .inl ⟨pre, ?_, hj⟩⟩
      rw [hmap, partsS] at e1
      exact ((List.map_inj_right hinj).1 e1).symm
    · refine ⟨hv, .inr ⟨pre, ?_, hj⟩⟩
      rw [hmap, partsS] at hp
      have e1 := List.prefix_iff_eq_take.1 hp
      rw [← List.map_take] at e1
      have e2 := (List.map_inj_right hinj).1 e1
      show pre.map Fin.val <+: List.range (cntS len m)
      rw [e2]
      exact List.take_prefix _ _

end Go.Proofs.Ytmfmpfcgllpflaa
