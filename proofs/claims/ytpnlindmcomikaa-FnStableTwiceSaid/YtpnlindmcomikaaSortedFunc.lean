/-
  The contracts of slices.SortFunc, slices.SortedFunc by the ranks of a table, impl.SortedFunc, impl.SortedFuncKeys. No statement is proved here.
-/
import Derived.Test.YtpnlindmcomikaaRank
import Derived.Test.YtpnlindmcomikaaCollect
import Derived.Test.YtpnlindmcomikaaShelf
import Derived.Sort.OwnSortedInts
import Derived.Shelf.SlSortCmp.Kit1
namespace Go.Proofs.Ytpnlindmcomikaa
open Go.RowKit Go.Shelf Go.Sort Go.Lib

theorem lt_ck (tb : List Int) (x y : Int) : ltOf (ck tb) x y = decide (rk tb x < rk tb y) := by
  unfold ltOf ck
  by_cases h1 : rk tb x < rk tb y
  · simp [h1]
  · by_cases h2 : rk tb y < rk tb x <;> simp [h1, h2]
theorem swo_ck (tb : List Int) : SWO (ltOf (ck tb)) where
  irrefl x := by rw [lt_ck]; simp
  trans x y z h1 h2 := by rw [lt_ck] at *; simp at *; omega
  ntrans x y z h1 h2 := by rw [lt_ck] at *; simp at *; omega

/-- Ranks do not fall. -/
def Rises (tb xs : List Int) : Prop := ∀ k, 0 < k → k < xs.length → rk tb (xs[k - 1]?.getD 0) ≤ rk tb (xs[k]?.getD 0)

/-- slices.SortFunc by ranks -/
theorem sortFunc_calls (w : World) (base bx : Nat) (v tv : Value) (xs tb : List Int) (hr : w.ownsRow base 3 1 v xs.length (xs.map (Value.int .i64))) (hb : base ≤ w.heap.size) (hz : xs.length < 4611686018427387904)
    (hbx : w.cell? ⟨bx, 0, none⟩ = some tv) (hbl : bx < base) (hs : SeesI w base tv tb) (hzt : tb.length ≤ 1000000000000000000) :
    Calls Try.prog 32 #[v, .func (.func 34) #[] #[.pointer (some ⟨bx, 0, none⟩)]] w fun e w' =>
      ∃ ys, e = .returned (.tuple #[]) ∧ ys.Perm xs ∧ Rises tb ys ∧ w'.ownsRow base 3 1 v ys.length (ys.map (Value.int .i64)) ∧ Below base w w' := by
  cases xs with
  | nil =>
    obtain ⟨A, c, rfl, _⟩ := own_form hr
    refine (Try.slices_SortFunc_none (α := Int) A c _ w).mono ?_
    rintro e w' ⟨rfl, rfl⟩
    exact ⟨[], rfl, List.Perm.refl _, fun k _ h => absurd h (by simp), hr, Below.refl _ _⟩
  | cons x xs =>
    rcases hr.2 with ⟨_, h0⟩ | ⟨g, cap, cur, rfl, hg, hh, hn, hc, hsz, ht⟩
    · simp at h0
    · rw [Nat.mul_one] at ht
      refine (Try.slices_SortFunc (Value.int .i64) (fun _ => rfl) (ck tb) (swo_ck tb) 34 #[.pointer (some ⟨bx, 0, none⟩)] g 0 cap (x :: xs).toArray w (enters_of Try.func34 (by kernel_rfl) rfl) ?_ (holds_of_blockI hh ht) (Array.getElem?_eq_some_iff.1 hh).1 (by simpa using hz)).mono ?_
      · refine CmpReads.lays ?_
        intro m os dk _ a b
        have hbel : Below base w (sortWorld (Value.int .i64) w g 0 m dk os) := (Below.refl base w).grown (grownBy_sortedI dk) hb (fun k e => by cases e; exact hg)
        refine (cmp_calls _ base bx tv tb a b ((hbel.cell (p := ⟨bx, 0, none⟩) hbl).trans hbx) (hs.below hbel) hzt).mono ?_
        rintro e w' ⟨rfl, rfl⟩
        exact ⟨rfl, 0, rfl⟩
      · rintro e w' ⟨rfl, d', n, os, hp, hso, rfl⟩
        have hpl : d'.size = (x :: xs).length := hp.1
        have hperm : d'.toList.Perm (x :: xs) := by
          have := hp.2.2
          have e1 : d'.extract 0 (x :: xs).toArray.size = d' := by rw [← hp.1]; simp
          have e2 : (x :: xs).toArray.extract 0 (x :: xs).toArray.size = (x :: xs).toArray := by simp
          rw [e1, e2] at this
          exact this
        refine ⟨d'.toList, rfl, hperm, ?_, ?_, (Below.refl base w).grown (grownBy_sortedI d') hb (fun k e => by cases e; exact hg)⟩
        · intro k hk0 hk
          have hk' : k < d'.size := by simpa using hk
          have := hso (k - 1) k (Nat.zero_le _) (by omega) (by rw [List.size_toArray]; omega)
          rw [lt_ck, decide_eq_false_iff_not] at this
          rw [getElem!_pos d' k hk', getElem!_pos d' (k - 1) (by omega)] at this
          rw [List.getElem?_eq_getElem hk, List.getElem?_eq_getElem (by omega : k - 1 < d'.toList.length)]
          simp only [Array.getElem_toList, Option.getD_some]
          omega
        · have hlen : d'.toList.length = (x :: xs).length := hperm.length_eq
          have := ownsRow_sortedI (os := os) (n := n) (ts := d'.toList) hlen hg hh hn hc hsz
          rw [hlen]
          simpa [sortWorld] using this

set_option maxHeartbeats 400000 in
/-- slices.SortedFunc by ranks -/
theorem sortedFunc_calls {Kp : World → World → Prop} {S Sp : List Int → Prop} (w : World) (N g bx : Nat) (lb : Array Value) (tv : Value) (tb : List Int)
    (hbx : w.cell? ⟨bx, 0, none⟩ = some tv) (hbl : bx < w.heap.size) (hs : SeesI w w.heap.size tv tb) (hzt : tb.length ≤ 1000000000000000000)
    (eg : ∀ args W, (callFunc g args).run Try.prog W = .ok (.enter g args) W)
    (hseq : SeqStopsK Fence.wide 4 Try.prog g lb (fun x : Int => #[Value.int .i64 x]) Kp S Sp N w)
    (hKt : ∀ {A B C : World}, Kp A B → Kp B C → Kp A C) (hKb : ∀ (W : World) (l : Nat) (o o' : Obj), w.heap.size ≤ l → W.heap[l]? = some o → o.isCells = false → o.isWalk = false → Kp W (W.putObj l o'))
    (hKp : ∀ W W' : World, Below w.heap.size W W' → KeepsOthers W W' → Kp W W') (hN : N * 8 ≤ 140737488355328) (hS : ∀ xs, S xs → xs.length ≤ N) :
    Calls Try.prog 21 #[.func (.func g) #[] lb, .func (.func 34) #[] #[.pointer (some ⟨bx, 0, none⟩)]] w fun e w' =>
      ∃ v xs ys, e = .returned v ∧ S xs ∧ ys.Perm xs ∧ Rises tb ys ∧ w'.ownsRow w.heap.size 3 1 v ys.length (ys.map (Value.int .i64)) ∧ (v = .slice none 0 0 ↔ xs = []) ∧ Below w.heap.size w w' := by
  have Hc := Lib.hid (collect_calls w N g lb eg hseq hKt hKb hKp hN)
  have HS := Lib.hid hS
  clear hKt hKb hKp hseq eg hS
  go_enter Try.func21, Try.ntmps21
  go_wp2_with fail
  refine Hc.out.mono ?_
  rintro e w1 ⟨v, xs, rfl, hS, hr, hnil, hb⟩
  have hxl := HS.out xs hS
  have Hn := Lib.hid hnil
  have hso := Lib.hid (sortFunc_calls w1 w.heap.size bx v tv xs tb hr hb.size (by omega) ((hb.cell (p := ⟨bx, 0, none⟩) hbl).trans hbx) hbl (hs.below hb) hzt)
  obtain ⟨A, c, rfl, _⟩ := own_form hr
  clear hnil hr
  go_wp2_with fail
  refine hso.out.mono ?_
  rintro e w2 ⟨ys, rfl, hp, hri, hr2, hb2⟩
  have Hp := Lib.hid hp
  have Hri := Lib.hid hri
  clear hp hri
  go_wp2_with fail
  go_ret
  exact ⟨_, xs, ys, rfl, hS, Hp.out, Hri.out, hr2, Hn.out, hb.trans hb2⟩

end Go.Proofs.Ytpnlindmcomikaa
