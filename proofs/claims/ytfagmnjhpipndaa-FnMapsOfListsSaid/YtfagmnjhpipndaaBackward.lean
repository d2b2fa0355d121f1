/-
  The contract of slices.Backward at ints: an iterator that hands over indices and elements in order, and stops when told to. No statement is proved here.
-/
import Derived.Test.YtfagmnjhpipndaaAll
namespace Go.Proofs.Ytfagmnjhpipndaa
open Go.RowKit Go.Shelf
attribute [local go_sem] Oper.semAt_some

/-- Indices with their elements, the last one first. -/
def backOf (zs : List Int) : List (Int × Int) := (allOf zs).reverse
theorem backOf_length (zs : List Int) : (backOf zs).length = zs.length := by rw [backOf, List.length_reverse, allOf_length]
theorem backOf_snoc (zs : List Int) {k : Nat} (h : k < zs.length) : (backOf zs).take (k + 1) = (backOf zs).take k ++ [((zs.length : Int) - 1 - (k : Int), zs[zs.length - 1 - k]'(by omega))] := by
  rw [take_snoc _ (by rw [backOf_length]; exact h)]
  congr 2
  have e : (backOf zs)[k]'(by rw [backOf_length]; exact h) = (allOf zs)[zs.length - 1 - k]'(by rw [allOf_length]; omega) := by
    simp only [backOf, List.getElem_reverse, allOf_length]
  rw [e, allOf_get]
  congr 1
  omega

/-- What a round must keep: whatever lay below n₀, and the box. -/
def KeepsBox (n₀ Bs : Nat) (W W' : World) : Prop := Below n₀ W W' ∧ W'.heap[Bs]? = W.heap[Bs]?
theorem keepsBox_t {n₀ Bs : Nat} {A B C : World} (h : KeepsBox n₀ Bs A B) (k : KeepsBox n₀ Bs B C) : KeepsBox n₀ Bs A C := ⟨h.1.trans k.1, k.2.trans h.2⟩
theorem keepsBox_b {n₀ Bs : Nat} {w : World} (hn : n₀ ≤ w.heap.size) (hB : Bs < w.heap.size) (W : World) (l : Nat) (o o' : Obj) (hl : w.heap.size ≤ l) (h : W.heap[l]? = some o) (h1 : o.isCells = false) (h2 : o.isWalk = false) : KeepsBox n₀ Bs W (W.putObj l o') :=
  ⟨belowK_b hn W l o o' hl h h1 h2, World.putObj_heap_other (by omega)⟩

set_option maxRecDepth 100000 in
set_option maxHeartbeats 1000000 in
/-- The closure of slices.Backward, whatever the rounds do that keep what lay below n₀. -/
theorem back1_in (n : Nat) (hn : 1 ≤ n) (l Bs n₀ c : Nat) (A : Option Addr) (zs : List Int) (hz : zs.length ≤ 1000000000000000000) (hwf : ∀ z ∈ zs, (Lit.int .i64 z).wf = true) (J Jx : List Pr → World → Prop)
    (hY : ∀ pre (x : Pr) W, J pre W → pre.length < zs.length → YieldAt Fence.wide (n - 1) Try.prog l #[.int .i64 x.1.1, .int .i64 x.1.2] W fun e W' =>
      (e = .returned (.bool true) ∧ J (pre ++ [x]) W' ∧ KeepsBox n₀ Bs W W') ∨ (e = .returned (.bool false) ∧ Jx (pre ++ [x]) W'))
    (W : World) (hBs : Boxed W Bs 25 (.slice A zs.length c))
    (hc : 0 < zs.length → ∃ b off, A = some ⟨b, off, none⟩ ∧ b < n₀ ∧ ∀ j, j < zs.length → W.cell? ⟨b, off + j, none⟩ = some (.int .i64 (zs[j]?.getD 0))) (h0 : J [] W) :
    CallsIn Fence.wide n Try.prog 68 #[.func (.yield l) #[] #[], .pointer (some ⟨Bs, 0, none⟩)] W fun e W' => (∃ v, e = .returned v) ∧
      ((∃ ys : List Pr, ys.map (·.1) = backOf zs ∧ J ys W') ∨ (∃ pre : List Pr, pre.map (·.1) <+: backOf zs ∧ Jx pre W')) := by
  refine callsIn_of_wp Try.func68 rfl trivial ?_ rfl
  simp only [Try.ntmps68, List.size_toArray, List.length_cons, List.length_nil, Nat.reduceAdd, Nat.reduceSub, Array.replicate_succ, Array.replicate_zero, List.push_toArray, List.append_toArray, List.nil_append, List.cons_append]
  have hbc := hBs.cell
  gi_wp2
  clear hbc
  gi_loopw [3] (fun i wr => ∃ (k : Nat) (pre : List Pr), k ≤ zs.length ∧ i = .int .i64 ((zs.length : Int) - 1 - (k : Int)) ∧ pre.map (·.1) = (backOf zs).take k ∧ J pre wr ∧ KeepsBox n₀ Bs W wr)
    (fun i _ => (intOf i + 1).toNat)
  case atStart => exact ⟨0, [], Nat.zero_le _, by simp, rfl, h0, Below.refl _ _, rfl⟩
  case round =>
    obtain ⟨k, pre, hk, rfl, hpre, hJs, hnx⟩ := hrel
    have hlen : pre.length = k := by
      have := congrArg List.length hpre
      rw [List.length_map, List.length_take, backOf_length] at this
      omega
    have Hpre := Lib.hid hpre
    clear hpre
    have hbx := (show Boxed wr Bs 25 _ from hnx.2.trans hBs).cell
    by_cases hlt : k < zs.length
    · obtain ⟨b, off, rfl, hb, hcs⟩ := hc (by omega)
      have hkr : zs.length - 1 - k < zs.length := by omega
      have hcx : wr.cell? ⟨b, off + (zs.length - 1 - k), none⟩ = some (.int .i64 (zs[zs.length - 1 - k]?.getD 0)) := (hnx.1.cell (p := ⟨b, off + (zs.length - 1 - k), none⟩) hb).trans (hcs _ hkr)
      rw [List.getElem?_eq_getElem hkr] at hcx
      clear hcs hc
      have hsn := Lib.hid (backOf_snoc zs hlt)
      have hw := hwf (zs[zs.length - 1 - k]'hkr) (List.getElem_mem hkr)
      clear hwf
      simp only [Option.getD_some] at hcx
      generalize zs[zs.length - 1 - k] = z at hcx hsn hw
      have hpl : pre.length < zs.length := by omega
      have hwk : (Lit.int .i64 ((zs.length : Int) - 1 - (k : Int))).wf = true := by
        rw [show (zs.length : Int) - 1 - (k : Int) = ((zs.length - 1 - k : Nat) : Int) by omega]
        exact wf_nat (by omega)
      clear hlen
      obtain ⟨fn, tmps, assign, body, hy, hR⟩ := hY pre ⟨((zs.length : Int) - 1 - (k : Int), z), hwk, hw⟩ wr hJs hpl
      dsimp only at hy
      gi_wp2
      refine hR.mono ?_
      rintro e W3 (⟨rfl, hJ3, hk3⟩ | ⟨rfl, hJx3⟩)
      · gi_wp2
        go_roundw
        case rel => exact ⟨k + 1, _, by omega, by go_num, by rw [List.map_append, Hpre.out, hsn.out]; rfl, hJ3, keepsBox_t hnx hk3⟩
        case measure => simp [intOf]; omega
      · gi_wp2
        refine bodyPost_ret (results_none rfl _ _ _) rfl ?_
        exact ⟨⟨_, rfl⟩, .inr ⟨_, by rw [List.map_append, Hpre.out]; exact hsn.out ▸ List.take_prefix _ _, hJx3⟩⟩
    · obtain rfl : k = zs.length := by omega
      clear hc hwf hlen
      gi_wp2
      go_end0
      exact ⟨⟨_, rfl⟩, .inl ⟨_, by rw [Hpre.out, List.take_of_length_le (by rw [backOf_length]; exact Nat.le_refl _)], hJs⟩⟩

/-- slices.Backward: the slice is boxed; the function value has the box. -/
theorem back_calls (A : Option Addr) (len cap : Nat) (w : World) :
    Calls Try.prog 48 #[.slice A len cap] w fun e w' =>
      e = .returned (.func (.func 68) #[] #[.pointer (some ⟨w.heap.size, 0, none⟩)]) ∧ w.alloc (.cells #[.slice A len cap] 25) = w' := by
  go_enter Try.func48, Try.ntmps48
  go_wp2
  go_ret
  exact ⟨rfl, rfl⟩

/-- What slices.Backward hands back goes over the indices and elements in order, or over a beginning of them. -/
theorem back_stops (n : Nat) (hn : 1 ≤ n) (Bs n₀ : Nat) (sv : Value) (zs : List Int) (hz : zs.length ≤ 1000000000000000000) (hwf : ∀ z ∈ zs, (Lit.int .i64 z).wf = true) (w : World) (hBs : Bs < w.heap.size) (hn₀ : n₀ ≤ w.heap.size)
    (hc : Boxed w Bs 25 sv) (hI : SeesI w n₀ sv zs) :
    SeqStopsK Fence.wide n Try.prog 68 #[.pointer (some ⟨Bs, 0, none⟩)] (fun x : Pr => #[Value.int .i64 x.1.1, Value.int .i64 x.1.2]) (KeepsBox n₀ Bs) (fun ys => ys.map (·.1) = backOf zs) (fun pre => pre.map (·.1) <+: backOf zs) zs.length w := fun l J Jx W hW _ _ hY h0 => by
  have hc' : Boxed W Bs 25 sv := (hW.block Bs hBs).trans hc
  obtain ⟨A, c, rfl, _, hs⟩ := (hI.below (hW.mono hn₀)).form
  exact back1_in n hn l Bs n₀ c A zs hz hwf J Jx hY W hc' hs h0

end Go.Proofs.Ytfagmnjhpipndaa
