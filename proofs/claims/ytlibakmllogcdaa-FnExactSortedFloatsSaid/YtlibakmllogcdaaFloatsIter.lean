/-
  The contract of impl.floats: an iterator that hands over the elements in order, and stops when told to. No statement is proved here.
-/
import Derived.Test.YtlibakmllogcdaaFloats
namespace Go.Proofs.Ytlibakmllogcdaa
open Go.RowKit Go.Shelf
attribute [local go_sem] Oper.semAt_some

set_option maxRecDepth 100000 in
set_option maxHeartbeats 1000000 in
/-- The closure of impl.floats, whatever the rounds do that keep what lay below n₀. -/
theorem floats1_in (n : Nat) (hn : 1 ≤ n) (l Bs n₀ c : Nat) (A : Option Addr) (zs : List Nat) (hz : zs.length ≤ 1000000000000000000) (J Jx : List Nat → World → Prop)
    (hY : ∀ pre x W, J pre W → pre.length < zs.length → YieldAt Fence.wide (n - 1) Try.prog l #[.float .f64 x] W fun e W' =>
      (e = .returned (.bool true) ∧ J (pre ++ [x]) W' ∧ Below n₀ W W') ∨ (e = .returned (.bool false) ∧ Jx (pre ++ [x]) W'))
    (W : World) (hBs : W.cell? ⟨Bs, 0, none⟩ = some (.slice A zs.length c))
    (hc : 0 < zs.length → ∃ b off, A = some ⟨b, off, none⟩ ∧ b < n₀ ∧ ∀ j, j < zs.length → W.cell? ⟨b, off + j, none⟩ = some (.float .f64 (zs[j]?.getD 0))) (h0 : J [] W) :
    CallsIn Fence.wide n Try.prog 27 #[.func (.yield l) #[] #[], .pointer (some ⟨Bs, 0, none⟩)] W fun e W' => (∃ v, e = .returned v) ∧
      ((∃ ys, ys = zs ∧ J ys W') ∨ (∃ pre, pre <+: zs ∧ Jx pre W')) := by
  refine callsIn_of_wp Try.func27 rfl trivial ?_ rfl
  simp only [Try.ntmps27, List.size_toArray, List.length_cons, List.length_nil, Nat.reduceAdd, Nat.reduceSub, Array.replicate_succ, Array.replicate_zero, List.push_toArray, List.append_toArray, List.nil_append, List.cons_append]
  gi_wp2
  gi_loopw [7] (fun i wr => ∃ k : Nat, k ≤ zs.length ∧ i = .int .i64 k ∧ J (zs.take k) wr ∧ Below n₀ W wr)
    (fun i _ => zs.length - (intOf i).toNat)
  case atStart => exact ⟨0, Nat.zero_le _, rfl, h0, Below.refl _ _⟩
  case round =>
    obtain ⟨k, hk, rfl, hJs, hnx⟩ := hrel
    by_cases hlt : k < zs.length
    · obtain ⟨b, off, rfl, hb, hcs⟩ := hc (by omega)
      have hcx : wr.cell? ⟨b, off + k, none⟩ = some (.float .f64 (zs[k]?.getD 0)) := (hnx.cell (p := ⟨b, off + k, none⟩) hb).trans (hcs k hlt)
      clear hcs hc
      have hsn := Lib.hid (take_snoc_getDF zs hlt)
      generalize zs[k]?.getD 0 = x at hcx hsn
      obtain ⟨fn, tmps, assign, body, hy, hR⟩ := hY _ x wr hJs (by rw [List.length_take]; omega)
      gi_wp2
      refine hR.mono ?_
      rintro e W3 (⟨rfl, hJ3, hk3⟩ | ⟨rfl, hJx3⟩)
      · gi_wp2
        go_roundw
        case rel => exact ⟨k + 1, by omega, by simp, by rw [hsn.out]; exact hJ3, hnx.trans hk3⟩
        case measure => simp [intOf]; omega
      · gi_wp2
        refine bodyPost_ret (results_none rfl _ _ _) rfl ?_
        exact ⟨⟨_, rfl⟩, .inr ⟨_, by rw [← hsn.out]; exact List.take_prefix _ _, hJx3⟩⟩
    · obtain rfl : k = zs.length := by omega
      clear hc
      gi_wp2
      go_end0
      exact ⟨⟨_, rfl⟩, .inl ⟨_, List.take_length, hJs⟩⟩

/-- impl.floats: the slice is boxed; the function value has the box. -/
theorem floats_calls (A : Option Addr) (len cap : Nat) (w : World) :
    Calls Try.prog 20 #[.slice A len cap] w fun e w' =>
      e = .returned (.func (.func 27) #[] #[.pointer (some ⟨w.heap.size, 0, none⟩)]) ∧ w.alloc (.cells #[.slice A len cap] 29) = w' := by
  go_enter Try.func20, Try.ntmps20
  go_wp2
  go_ret
  exact ⟨rfl, rfl⟩

/-- What impl.floats hands back goes over zs in order, or over a beginning of it. -/
theorem floats_stops (n : Nat) (hn : 1 ≤ n) (Bs n₀ : Nat) (sv : Value) (zs : List Nat) (hz : zs.length ≤ 1000000000000000000) (w : World) (hBs : Bs < w.heap.size) (hn₀ : n₀ ≤ w.heap.size)
    (hc : w.cell? ⟨Bs, 0, none⟩ = some sv) (hI : SeesF w n₀ sv zs) :
    SeqStopsK Fence.wide n Try.prog 27 #[.pointer (some ⟨Bs, 0, none⟩)] (fun x : Nat => #[Value.float .f64 x]) (Below n₀) (fun ys => ys = zs) (fun pre => pre <+: zs) zs.length w := fun l J Jx W hW _ _ hY h0 => by
  have hc' := (hW.cell (p := ⟨Bs, 0, none⟩) hBs).trans hc
  obtain ⟨A, c, rfl, _, hs⟩ := (hI.below (hW.mono hn₀)).form
  exact floats1_in n hn l Bs n₀ c A zs hz J Jx hY W hc' hs h0

end Go.Proofs.Ytlibakmllogcdaa
