/-
  The contracts of slices.Sort and slices.Sorted at ints. No statement is proved here.
-/
import Derived.Test.YtfagmnjhpipndaaCollect
import Derived.Test.YtfagmnjhpipndaaUpLaw
import Derived.Test.YtfagmnjhpipndaaShelf
import Derived.Sort.OwnSortedInts
namespace Go.Proofs.Ytfagmnjhpipndaa
open Go.RowKit Go.Shelf Go.Sort

theorem mergeSort_upw (zs : List Int) : zs.mergeSort (fun x y => decide (x ≤ y)) = upw zs := by
  refine upw_eq (List.mergeSort_perm zs _) ?_
  have h := List.pairwise_mergeSort (le := fun x y : Int => decide (x ≤ y)) (fun a b c h1 h2 => by simp only [decide_eq_true_eq] at *; omega) (fun a b => by simp only [Bool.or_eq_true, decide_eq_true_eq]; omega) zs
  exact h.imp (fun h => by simpa using h)

/-- slices.Sort -/
theorem sort_calls (w : World) (base : Nat) (v : Value) (xs : List Int) (hr : w.ownsRow base 3 1 v xs.length (xs.map (Value.int .i64))) (hb : base ≤ w.heap.size) (hz : xs.length < 4611686018427387904) :
    Calls Try.prog 60 #[v] w fun e w' => e = .returned (.tuple #[]) ∧ w'.ownsRow base 3 1 v (upw xs).length ((upw xs).map (Value.int .i64)) ∧ Below base w w' := by
  cases xs with
  | nil =>
    obtain ⟨A, c, rfl, _⟩ := own_form hr
    refine (Try.slices_Sort_int_none A c w).mono ?_
    rintro e w' ⟨rfl, rfl⟩
    exact ⟨rfl, hr, Below.refl _ _⟩
  | cons x xs =>
    rcases hr.2 with ⟨_, h0⟩ | ⟨g, cap, cur, rfl, hg, hh, hn, hc, hs, ht⟩
    · simp at h0
    · rw [Nat.mul_one] at ht
      refine (Try.slices_Sort_int g 0 cap (x :: xs) w (holds_of_blockI hh ht) (Array.getElem?_eq_some_iff.1 hh).1 hz).mono ?_
      rintro e w' ⟨rfl, n, os, rfl⟩
      rw [mergeSort_upw]
      refine ⟨rfl, ?_, (Below.refl base w).grown (grownBy_sortedI _) hb (fun k e => by cases e; exact hg)⟩
      rw [upw_length]
      exact ownsRow_sortedI (upw_length _) hg hh hn hc hs

set_option maxHeartbeats 400000 in
/-- slices.Sorted -/
theorem sorted_calls {Kp : World → World → Prop} {S Sp : List Int → Prop} (w : World) (N g : Nat) (lb : Array Value)
    (eg : ∀ args W, (callFunc g args).run Try.prog W = .ok (.enter g args) W)
    (hseq : SeqStopsK Fence.wide 4 Try.prog g lb (fun x : Int => #[Value.int .i64 x]) Kp S Sp N w)
    (hKt : ∀ {A B C : World}, Kp A B → Kp B C → Kp A C) (hKb : ∀ (W : World) (l : Nat) (o o' : Obj), w.heap.size ≤ l → W.heap[l]? = some o → o.isCells = false → o.isWalk = false → Kp W (W.putObj l o'))
    (hKp : ∀ W W' : World, Below w.heap.size W W' → KeepsOthers W W' → Kp W W') (hN : N * 8 ≤ 140737488355328) (hS : ∀ xs, S xs → xs.length ≤ N) :
    Calls Try.prog 36 #[.func (.func g) #[] lb] w fun e w' =>
      ∃ v xs, e = .returned v ∧ S xs ∧ w'.ownsRow w.heap.size 3 1 v (upw xs).length ((upw xs).map (Value.int .i64)) ∧ (v = .slice none 0 0 ↔ xs = []) ∧ Below w.heap.size w w' := by
  have Hc := Lib.hid (collect_calls w N g lb eg hseq hKt hKb hKp hN)
  have HS := Lib.hid hS
  clear hKt hKb hKp hseq eg hS
  go_enter Try.func36, Try.ntmps36
  go_wp2_with fail
  refine Hc.out.mono ?_
  rintro e w1 ⟨v, xs, rfl, hS, hr, hnil, hb⟩
  have hxl := HS.out xs hS
  have Hn := Lib.hid hnil
  have hso := Lib.hid (sort_calls w1 w.heap.size v xs hr hb.size (by omega))
  obtain ⟨A, c, rfl, _⟩ := own_form hr
  clear hnil hr
  go_wp2_with fail
  refine hso.out.mono ?_
  rintro e w2 ⟨rfl, hr2, hb2⟩
  go_wp2_with fail
  go_ret
  exact ⟨_, xs, rfl, hS, hr2, Hn.out, hb.trans hb2⟩

end Go.Proofs.Ytfagmnjhpipndaa
