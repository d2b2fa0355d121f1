/-
  The contract of impl.pairs: an iterator that hands over the pairs of a list in order, and stops when told to. No statement is proved here.
-/
import Derived.Test.YtaeeiociiojciaaPairs
namespace Go.Proofs.Ytaeeiociiojciaa
open Go.RowKit Go.Shelf
attribute [local go_sem] Oper.semAt_some

set_option maxRecDepth 100000 in
set_option maxHeartbeats 1000000 in
/-- The closure of impl.pairs, whatever the rounds do that keep what lay below n₀. -/
theorem prs1_in (n : Nat) (hn : 1 ≤ n) (l Bs n₀ c : Nat) (A : Option Addr) (ps : List (Int × Int)) (hz : ps.length ≤ 1000000000000000000) (hwf : ∀ p ∈ ps, (Lit.int .i64 p.1).wf = true ∧ (Lit.int .i64 p.2).wf = true) (J Jx : List Pr → World → Prop)
    (hY : ∀ pre (x : Pr) W, J pre W → pre.length < ps.length → YieldAt Fence.wide (n - 1) Try.prog l #[.int .i64 x.1.1, .int .i64 x.1.2] W fun e W' =>
      (e = .returned (.bool true) ∧ J (pre ++ [x]) W' ∧ Below n₀ W W') ∨ (e = .returned (.bool false) ∧ Jx (pre ++ [x]) W'))
    (W : World) (hJ : AbidesFrom W.heap.size J) (hn₀ : n₀ ≤ W.heap.size) (hBs : W.cell? ⟨Bs, 0, none⟩ = some (.slice A ps.length c))
    (hc : 0 < ps.length → ∃ b off, A = some ⟨b, off, none⟩ ∧ b < n₀ ∧ ∀ (j : Nat) (hj : j < ps.length), W.cell? ⟨b, off + j * 2, none⟩ = some (.int .i64 ps[j].1) ∧ W.cell? ⟨b, off + j * 2 + 1, none⟩ = some (.int .i64 ps[j].2)) (h0 : J [] W) :
    CallsIn Fence.wide n Try.prog 42 #[.func (.yield l) #[] #[], .pointer (some ⟨Bs, 0, none⟩)] W fun e W' => (∃ v, e = .returned v) ∧
      ((∃ ys : List Pr, ys.map (·.1) = ps ∧ J ys W') ∨ (∃ pre : List Pr, pre.map (·.1) <+: ps ∧ Jx pre W')) := by
  refine callsIn_of_wp Try.func42 rfl trivial ?_ rfl
  simp only [Try.ntmps42, List.size_toArray, List.length_cons, List.length_nil, Nat.reduceAdd, Nat.reduceSub, Array.replicate_succ, Array.replicate_zero, List.push_toArray, List.append_toArray, List.nil_append, List.cons_append]
  gi_wp2
  gi_loopw [7] (fun i wr => ∃ (k : Nat) (pre : List Pr), k ≤ ps.length ∧ i = .int .i64 k ∧ pre.map (·.1) = ps.take k ∧ J pre wr ∧ Below n₀ W wr)
    (fun i _ => ps.length - (intOf i).toNat)
  case atStart => exact ⟨0, [], Nat.zero_le _, rfl, rfl, h0, Below.refl _ _⟩
  case round =>
    obtain ⟨k, pre, hk, rfl, hpre, hJs, hnx⟩ := hrel
    have hlen : pre.length = k := by
      have := congrArg List.length hpre
      rw [List.length_map, List.length_take] at this
      omega
    have Hpre := Lib.hid hpre
    clear hpre
    by_cases hlt : k < ps.length
    · obtain ⟨b, off, rfl, hb, hcs⟩ := hc (by omega)
      obtain ⟨x1, x2⟩ := hcs k hlt
      have d1 := (hnx.cell (p := ⟨b, off + k * 2, none⟩) hb).trans x1
      have d2 := (hnx.cell (p := ⟨b, off + k * 2 + 1, none⟩) hb).trans x2
      clear hcs hc x1 x2
      have hsn := Lib.hid (take_snoc ps hlt)
      have hw := hwf ps[k] (List.getElem_mem hlt)
      clear hwf
      generalize ps[k] = z at d1 d2 hsn hw
      obtain ⟨z1, z2⟩ := z
      dsimp only at d1 d2 hw
      have hpl : pre.length < ps.length := by omega
      clear hlen
      have hJ2 := hJ pre wr (wr.alloc (.cells #[.int .i64 z1, .int .i64 z2] 36)) none hJs (World.grownBy_alloc wr _ none) (fun r e => by cases e)
      have hb2 := hnx.alloc (Nat.le_trans hn₀ (by have := hnx.size; omega)) (.cells #[.int .i64 z1, .int .i64 z2] 36)
      obtain ⟨fn, tmps, assign, body, hy, hR⟩ := hY pre ⟨(z1, z2), hw⟩ _ hJ2 hpl
      dsimp only at hy
      gi_wp2
      refine hR.mono ?_
      rintro e W3 (⟨rfl, hJ3, hk3⟩ | ⟨rfl, hJx3⟩)
      · gi_wp2
        go_roundw
        case rel => exact ⟨k + 1, _, by omega, by simp, by rw [List.map_append, Hpre.out, hsn.out]; rfl, hJ3, hb2.trans hk3⟩
        case measure => simp [intOf]; omega
      · gi_wp2
        refine bodyPost_ret (results_none rfl _ _ _) rfl ?_
        exact ⟨⟨_, rfl⟩, .inr ⟨_, by rw [List.map_append, Hpre.out]; exact hsn.out ▸ List.take_prefix _ _, hJx3⟩⟩
    · obtain rfl : k = ps.length := by omega
      clear hc hwf hlen
      gi_wp2
      go_end0
      exact ⟨⟨_, rfl⟩, .inl ⟨_, by rw [Hpre.out, List.take_of_length_le (Nat.le_refl _)], hJs⟩⟩

/-- impl.pairs: the slice is boxed; the function value has the box. -/
theorem prs_calls (A : Option Addr) (len cap : Nat) (w : World) :
    Calls Try.prog 32 #[.slice A len cap] w fun e w' =>
      e = .returned (.func (.func 42) #[] #[.pointer (some ⟨w.heap.size, 0, none⟩)]) ∧ w.alloc (.cells #[.slice A len cap] 24) = w' := by
  go_enter Try.func32, Try.ntmps32
  go_wp2
  go_ret
  exact ⟨rfl, rfl⟩

/-- What impl.pairs hands back goes over the pairs in order, or over a beginning of them. -/
theorem prs_stops (n : Nat) (hn : 1 ≤ n) (Bs n₀ : Nat) (sv : Value) (ps : List (Int × Int)) (hz : ps.length ≤ 1000000000000000000) (hwf : ∀ p ∈ ps, (Lit.int .i64 p.1).wf = true ∧ (Lit.int .i64 p.2).wf = true) (w : World) (hBs : Bs < w.heap.size) (hn₀ : n₀ ≤ w.heap.size)
    (hc : w.cell? ⟨Bs, 0, none⟩ = some sv) (hI : SeesP w n₀ sv ps) :
    SeqStopsK Fence.wide n Try.prog 42 #[.pointer (some ⟨Bs, 0, none⟩)] (fun x : Pr => #[Value.int .i64 x.1.1, Value.int .i64 x.1.2]) (Below n₀) (fun ys => ys.map (·.1) = ps) (fun pre => pre.map (·.1) <+: ps) ps.length w := fun l J Jx W hW hJ _ hY h0 => by
  have hc' := (hW.cell (p := ⟨Bs, 0, none⟩) hBs).trans hc
  obtain ⟨A, c, rfl, _, hs⟩ := (hI.below (hW.mono hn₀)).form
  exact prs1_in n hn l Bs n₀ c A ps hz hwf J Jx hY W hJ (Nat.le_trans hn₀ hW.size) hc' hs h0

end Go.Proofs.Ytaeeiociiojciaa
