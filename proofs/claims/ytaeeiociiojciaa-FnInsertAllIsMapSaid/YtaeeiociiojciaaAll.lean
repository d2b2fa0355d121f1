/-
  The contract of slices.All at ints: an iterator that hands over indices and elements in order, and stops when told to. No statement is proved here.
-/
import Derived.Test.YtaeeiociiojciaaPairs
namespace Go.Proofs.Ytaeeiociiojciaa
open Go.RowKit Go.Shelf
attribute [local go_sem] Oper.semAt_some

theorem allOf_snoc (zs : List Int) {k : Nat} (h : k < zs.length) : (allOf zs).take (k + 1) = (allOf zs).take k ++ [((k : Int), zs[k])] := by
  rw [take_snoc _ (by rw [allOf_length]; exact h), allOf_get]

theorem wf_nat {k : Nat} (h : k ≤ 1000000000000000000) : (Lit.int .i64 (k : Int)).wf = true := by
  simp only [Lit.wf, IntKind.min, IntKind.max, IntKind.signed, IntKind.bits]
  simp
  omega

set_option maxRecDepth 100000 in
set_option maxHeartbeats 1000000 in
/-- The closure of slices.All, whatever the rounds do that keep what lay below n₀. -/
theorem all1_in (n : Nat) (hn : 1 ≤ n) (l Bs n₀ c : Nat) (A : Option Addr) (zs : List Int) (hz : zs.length ≤ 1000000000000000000) (hwf : ∀ z ∈ zs, (Lit.int .i64 z).wf = true) (J Jx : List Pr → World → Prop)
    (hY : ∀ pre (x : Pr) W, J pre W → pre.length < zs.length → YieldAt Fence.wide (n - 1) Try.prog l #[.int .i64 x.1.1, .int .i64 x.1.2] W fun e W' =>
      (e = .returned (.bool true) ∧ J (pre ++ [x]) W' ∧ Below n₀ W W') ∨ (e = .returned (.bool false) ∧ Jx (pre ++ [x]) W'))
    (W : World) (hBs : W.cell? ⟨Bs, 0, none⟩ = some (.slice A zs.length c))
    (hc : 0 < zs.length → ∃ b off, A = some ⟨b, off, none⟩ ∧ b < n₀ ∧ ∀ j, j < zs.length → W.cell? ⟨b, off + j, none⟩ = some (.int .i64 (zs[j]?.getD 0))) (h0 : J [] W) :
    CallsIn Fence.wide n Try.prog 39 #[.func (.yield l) #[] #[], .pointer (some ⟨Bs, 0, none⟩)] W fun e W' => (∃ v, e = .returned v) ∧
      ((∃ ys : List Pr, ys.map (·.1) = allOf zs ∧ J ys W') ∨ (∃ pre : List Pr, pre.map (·.1) <+: allOf zs ∧ Jx pre W')) := by
  refine callsIn_of_wp Try.func39 rfl trivial ?_ rfl
  simp only [Try.ntmps39, List.size_toArray, List.length_cons, List.length_nil, Nat.reduceAdd, Nat.reduceSub, Array.replicate_succ, Array.replicate_zero, List.push_toArray, List.append_toArray, List.nil_append, List.cons_append]
  gi_wp2
  gi_loopw [7] (fun i wr => ∃ (k : Nat) (pre : List Pr), k ≤ zs.length ∧ i = .int .i64 k ∧ pre.map (·.1) = (allOf zs).take k ∧ J pre wr ∧ Below n₀ W wr)
    (fun i _ => zs.length - (intOf i).toNat)
  case atStart => exact ⟨0, [], Nat.zero_le _, rfl, rfl, h0, Below.refl _ _⟩
  case round =>
    obtain ⟨k, pre, hk, rfl, hpre, hJs, hnx⟩ := hrel
    have hlen : pre.length = k := by
      have := congrArg List.length hpre
      rw [List.length_map, List.length_take, allOf_length] at this
      omega
    have Hpre := Lib.hid hpre
    clear hpre
    by_cases hlt : k < zs.length
    · obtain ⟨b, off, rfl, hb, hcs⟩ := hc (by omega)
      have hcx : wr.cell? ⟨b, off + k, none⟩ = some (.int .i64 (zs[k]?.getD 0)) := (hnx.cell (p := ⟨b, off + k, none⟩) hb).trans (hcs k hlt)
      rw [List.getElem?_eq_getElem hlt] at hcx
      clear hcs hc
      have hsn := Lib.hid (allOf_snoc zs hlt)
      have hw := hwf zs[k] (List.getElem_mem hlt)
      clear hwf
      simp only [Option.getD_some] at hcx
      generalize zs[k] = z at hcx hsn hw
      have hpl : pre.length < zs.length := by omega
      have hwk := wf_nat (k := k) (by omega)
      clear hlen
      obtain ⟨fn, tmps, assign, body, hy, hR⟩ := hY pre ⟨((k : Int), z), hwk, hw⟩ wr hJs hpl
      dsimp only at hy
      gi_wp2
      refine hR.mono ?_
      rintro e W3 (⟨rfl, hJ3, hk3⟩ | ⟨rfl, hJx3⟩)
      · gi_wp2
        go_roundw
        case rel => exact ⟨k + 1, _, by omega, by simp, by rw [List.map_append, Hpre.out, hsn.out]; rfl, hJ3, hnx.trans hk3⟩
        case measure => simp [intOf]; omega
      · gi_wp2
        refine bodyPost_ret (results_none rfl _ _ _) rfl ?_
        exact ⟨⟨_, rfl⟩, .inr ⟨_, by rw [List.map_append, Hpre.out]; exact hsn.out ▸ List.take_prefix _ _, hJx3⟩⟩
    · obtain rfl : k = zs.length := by omega
      clear hc hwf hlen
      gi_wp2
      go_end0
      exact ⟨⟨_, rfl⟩, .inl ⟨_, by rw [Hpre.out, List.take_of_length_le (by rw [allOf_length]; exact Nat.le_refl _)], hJs⟩⟩

/-- slices.All: the slice is boxed; the function value has the box. -/
theorem all_calls (A : Option Addr) (len cap : Nat) (w : World) :
    Calls Try.prog 29 #[.slice A len cap] w fun e w' =>
      e = .returned (.func (.func 39) #[] #[.pointer (some ⟨w.heap.size, 0, none⟩)]) ∧ w.alloc (.cells #[.slice A len cap] 22) = w' := by
  go_enter Try.func29, Try.ntmps29
  go_wp2
  go_ret
  exact ⟨rfl, rfl⟩

/-- What slices.All hands back goes over the indices and elements in order, or over a beginning of them. -/
theorem all_stops (n : Nat) (hn : 1 ≤ n) (Bs n₀ : Nat) (sv : Value) (zs : List Int) (hz : zs.length ≤ 1000000000000000000) (hwf : ∀ z ∈ zs, (Lit.int .i64 z).wf = true) (w : World) (hBs : Bs < w.heap.size) (hn₀ : n₀ ≤ w.heap.size)
    (hc : w.cell? ⟨Bs, 0, none⟩ = some sv) (hI : SeesI w n₀ sv zs) :
    SeqStopsK Fence.wide n Try.prog 39 #[.pointer (some ⟨Bs, 0, none⟩)] (fun x : Pr => #[Value.int .i64 x.1.1, Value.int .i64 x.1.2]) (Below n₀) (fun ys => ys.map (·.1) = allOf zs) (fun pre => pre.map (·.1) <+: allOf zs) zs.length w := fun l J Jx W hW _ _ hY h0 => by
  have hc' := (hW.cell (p := ⟨Bs, 0, none⟩) hBs).trans hc
  obtain ⟨A, c, rfl, _, hs⟩ := (hI.below (hW.mono hn₀)).form
  exact all1_in n hn l Bs n₀ c A zs hz hwf J Jx hY W hc' hs h0

end Go.Proofs.Ytaeeiociiojciaa
