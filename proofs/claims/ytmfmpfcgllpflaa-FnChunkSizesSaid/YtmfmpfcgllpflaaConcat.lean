/-
  The contracts of slices.Concat, impl.Concat and spec.Concat. No statement is proved here.
-/
import Derived.Test.YtmfmpfcgllpflaaLists
import Derived.Test.YtmfmpfcgllpflaaShelf
import Derived.Laws.AppendOwn
namespace Go.Proofs.Ytmfmpfcgllpflaa
open Go.RowKit Go.Shelf

/-- slices.Grow of nil. -/
theorem grow_calls (w : World) (n : Nat) (hn : n * 8 ≤ 140737488355328) :
    Calls Try.prog 46 #[.slice none 0 0, .int .i64 (n : Int)] w fun e w' => ∃ v, e = .returned v ∧ w'.ownsRow w.heap.size 3 1 v 0 [] ∧ (v = .slice none 0 0 ↔ n = 0) ∧ Below w.heap.size w w' := by
  obtain ⟨i0, hi, hz0, hz1, hz2⟩ := info_parts Try.infoInt
  rcases Nat.eq_zero_or_pos n with h0 | h0
  · subst h0
    refine ((show Calls Try.prog 46 _ _ _ from Any8.slices_Grow_room Try.growL none 0 0 0 w (Nat.le_refl _) (by omega) (by omega) (by omega))).mono ?_
    rintro e w' ⟨rfl, rfl⟩
    exact ⟨_, rfl, World.ownsRow_nil w' _ _ _, by simp, Below.refl _ _⟩
  · refine ((show Calls Try.prog 46 _ _ _ from Any8.slices_Grow_grow Try.growL i0 _ hi hz0 (by omega) none 0 0 n [] w (Nat.le_refl _) (by omega) (by rw [hz2]; omega) (by omega) (by simp) (fun _ => rfl) (fun a ha => by cases ha))).mono ?_
    rintro e w' ⟨rfl, rfl⟩
    have hge := grownCap_ge w (0 + n) 0 (Try.growL_ren.t 25)
    have hle := grownCap_le_maxLen w (0 + n) 0 (Try.growL_ren.t 25) (by unfold maxLen; omega)
    generalize grownCap w (0 + n) 0 (Try.growL_ren.t 25) = cp at hge hle
    refine ⟨_, rfl, ⟨by simp, .inr ⟨w.heap.size, cp, _, rfl, Nat.le_refl _, World.alloc_heap_new w.drew _, Nat.zero_le _, hle, ?_, by simp⟩⟩, by simp; omega, ?_⟩
    · simp [size_zeroCells, Value.cells]; omega
    · exact (show Below w.heap.size w w.drew from ⟨rfl, rfl, rfl, Nat.le_refl _, fun _ _ => rfl⟩).alloc (Nat.le_refl _) _

/-- What Concat hands back. -/
def ConcatPost (w : World) (L : List (List Int)) (e : Ending) (w' : World) : Prop :=
  ∃ v, e = .returned v ∧ w'.ownsRow w.heap.size 3 1 v (flat L).length ((flat L).map (Value.int .i64)) ∧ (v = .slice none 0 0 ↔ (flat L) = []) ∧ Below w.heap.size w w'

set_option maxRecDepth 100000 in
set_option maxHeartbeats 1000000 in
/-- slices.Concat -/
theorem concat_calls (w : World) (B : Nat) (sv : Value) (L : List (List Int)) (hI : SeesL w B sv L) (hB : B ≤ w.heap.size) (hz : (flat L).length * 8 ≤ 140737488355328) (hL : L.length ≤ 1000000000000000000) :
    Calls Try.prog 31 #[sv] w (ConcatPost w L) := by
  obtain ⟨i0, hi, hz0, hz1, hz2⟩ := info_parts Try.infoInt
  obtain ⟨A, c, rfl, _, hs⟩ := (hI.more hB).form
  clear hI
  go_enter Try.func31, Try.ntmps31
  go_wp2_with fail
  go_loopw [3, 11] (fun s i wr => ∃ k n : Nat, k ≤ L.length ∧ i = .int .i64 k ∧ s = .int .i64 n ∧ n = (flatTo L k).length ∧ w = wr) (fun _ i _ => L.length - (intOf i).toNat)
  case atStart => exact ⟨0, 0, Nat.zero_le _, rfl, rfl, by rw [flatTo_zero]; rfl, rfl⟩
  case round =>
    obtain ⟨k, n, hk, rfl, rfl, hn, rfl⟩ := hrel
    by_cases hlt : k < L.length
    · obtain ⟨b, off, rfl, hbl, hx⟩ := hs (by omega)
      obtain ⟨u, hu, hsu⟩ := hx k hlt
      obtain ⟨Au, cu, rfl, _, _⟩ := hsu.form
      have hfl := flat_one L hlt
      have hsn := Lib.hid (show (flatTo L (k + 1)).length = (flatTo L k).length + L[k].length by rw [flat_snoc L hlt, List.length_append])
      have Hn := Lib.hid hn
      rw [← hn] at hfl
      clear hx hs hsu hn
      generalize L[k].length = m at hu hfl hsn
      go_wp2
      go_roundw
      case rel => exact ⟨k + 1, n + m, by omega, by go_num, by go_num, by rw [hsn.out, Hn.out], trivial⟩
      case measure => simp [intOf]; omega
    · obtain rfl : k = L.length := by omega
      rw [flatTo_all] at hn
      subst hn
      have hgr := Lib.hid (grow_calls w (flat L).length hz)
      go_wp2_with fail
      refine hgr.out.mono ?_
      rintro e w1 ⟨v1, rfl, hown1, hnil1, hb1⟩
      have Hnil1 := Lib.hid hnil1
      have hs1 := hb1.size
      clear hnil1 hgr
      obtain ⟨A1, c1, rfl, _⟩ := own_form hown1
      go_wp2_with fail
      go_loopw [6, 27] (fun v i wr => ∃ k : Nat, k ≤ L.length ∧ i = .int .i64 k ∧ wr.ownsRow w.heap.size 3 1 v (flatTo L k).length ((flatTo L k).map (Value.int .i64)) ∧ (v = .slice none 0 0 ↔ (flat L) = []) ∧ Below w.heap.size w wr) (fun _ i _ => L.length - (intOf i).toNat)
      case atStart => exact ⟨0, Nat.zero_le _, rfl, by rw [flatTo_zero]; exact hown1, Hnil1.out.trans List.length_eq_zero_iff, hb1⟩
      case round =>
        obtain ⟨k, hk, rfl, hrow, hnil, hb⟩ := hrel
        have Hnil := Lib.hid hnil
        have hbs := hb.size
        clear hown1 hb1 hnil
        obtain ⟨A', c', rfl, _⟩ := own_form hrow
        by_cases hlt : k < L.length
        · obtain ⟨b, off, rfl, hbl, hx⟩ := hs (by omega)
          obtain ⟨u, hu0, hsu0⟩ := hx k hlt
          have hu := (hb.cell (p := ⟨b, off + k, none⟩) hbl).trans hu0
          have hsu := hsu0.below hb
          obtain ⟨Au, cu, rfl, _, _⟩ := hsu.form
          have hfl := flat_one L hlt
          have hsn := Lib.hid (flat_snoc L hlt)
          have hle := flat_le L k
          have hno : (flat L) = [] → L[k].length = 0 := by
            intro e
            have h2 : (flat L).length = 0 := by rw [e]; rfl
            omega
          have Hno := Lib.hid hno
          clear hx hs hu0 hsu0 hno
          generalize L[k] = m at hu hsu hfl hsn Hno
          generalize (flatTo L k) = fl at hrow hfl hsn hle Hnil
          go_wp2_with (at_builtin; refine wpList_append_sees _ rfl (.tmp 31) (.tmp 32) 23 rfl w.heap.size 3 i0 (.int .i64 0) 1 8 Try.underlying23 hi hz0 hz1 hz2 rfl (by decide) (.slice A' fl.length c') fl.length _ rfl hrow _ _ m.length _ rfl hsu (int_cell _) (by unfold maxLen; omega) (by omega) hbs ?_; intro v2 w2 hown2 hg2 hn2 _; have hb2 := below_own hb hrow hg2 (Nat.le_refl _) hbs)
          have hnil2 : v2 = .slice none 0 0 ↔ (flat L) = [] := by
            rw [hn2, Hnil.out]
            exact ⟨fun h => h.1, fun h => ⟨h, Hno.out h⟩⟩
          have Hnil2 := Lib.hid hnil2
          clear hnil2 hn2
          go_roundw
          case rel => exact ⟨k + 1, by omega, by go_num, by rw [hsn.out, List.length_append, List.map_append]; exact hown2, Hnil2.out, hb2⟩
          case measure => simp [intOf]; omega
        · obtain rfl : k = L.length := by omega
          clear hs
          go_wp2_with fail
          go_ret
          exact ⟨_, rfl, by rw [← flatTo_all]; exact hrow, Hnil.out, hb⟩

/-- What impl.Concat hands back. -/
def ImplConcatPost (w : World) (L : List (List Int)) (e : Ending) (w' : World) : Prop :=
  ∃ v b, e = .returned (.tuple #[v, .bool b]) ∧ w'.ownsRow w.heap.size 3 1 v (flat L).length ((flat L).map (Value.int .i64)) ∧ (b = true ↔ (flat L) = []) ∧ Below w.heap.size w w'

set_option maxHeartbeats 400000 in
/-- impl.Concat -/
theorem implConcat_calls (w : World) (B : Nat) (sv : Value) (L : List (List Int)) (hI : SeesL w B sv L) (hB : B ≤ w.heap.size) (hz : (flat L).length * 8 ≤ 140737488355328) (hL : L.length ≤ 1000000000000000000) :
    Calls Try.prog 12 #[sv] w (ImplConcatPost w L) := by
  have he := fun (W : World) (a : Option Addr) (n c : Nat) => Lib.run_eql_slice_nil (P := Try.prog) W 23 3 a n c 0 0 Try.underlying23
  have hc := Lib.hid (concat_calls w B sv L hI hB hz hL)
  clear hI
  go_enter Try.func12, Try.ntmps12
  go_wp2_with fail
  refine hc.out.mono ?_
  rintro e w1 ⟨v, rfl, hr, hnil, hb⟩
  obtain ⟨A', c', rfl, _⟩ := own_form hr
  have Hn := Lib.hid ((own_isNone hr).trans hnil)
  clear hnil
  go_wp2
  go_ret2
  exact ⟨_, _, rfl, hr, Hn.out, hb⟩

set_option maxHeartbeats 1000000 in
/-- spec.Concat -/
theorem specConcat_calls (w : World) (B : Nat) (sv : Value) (L : List (List Int)) (hI : SeesL w B sv L) (hB : B ≤ w.heap.size) (hz : (flat L).length * 8 ≤ 140737488355328) (hL : L.length ≤ 1000000000000000000) :
    Calls Try.prog 13 #[sv] w (ImplConcatPost w L) := by
  obtain ⟨i0, hi, hz0, hz1, hz2⟩ := info_parts Try.infoInt
  have hown0 := own_empty w w.heap.size 1 3 (Nat.le_refl _)
  have hb0 := (Below.refl w.heap.size w).alloc (Nat.le_refl _) (.cells #[] 3)
  obtain ⟨A, c, rfl, _, hs⟩ := (hI.more hB).form
  clear hI
  go_enter Try.func13, Try.ntmps13
  go_wp2_with fail
  go_loopw [4, 5] (fun v i wr => ∃ k : Nat, k ≤ L.length ∧ i = .int .i64 k ∧ wr.ownsRow w.heap.size 3 1 v (flatTo L k).length ((flatTo L k).map (Value.int .i64)) ∧ Below w.heap.size w wr) (fun _ i _ => L.length - (intOf i).toNat)
  case atStart => exact ⟨0, Nat.zero_le _, rfl, by rw [flatTo_zero]; exact hown0, hb0⟩
  case round =>
    obtain ⟨k, hk, rfl, hrow, hb⟩ := hrel
    have hbs := hb.size
    clear hown0 hb0
    obtain ⟨A', c', rfl, _⟩ := own_form hrow
    by_cases hlt : k < L.length
    · obtain ⟨b, off, rfl, hbl, hx⟩ := hs (by omega)
      obtain ⟨u, hu0, hsu0⟩ := hx k hlt
      have hu := (hb.cell (p := ⟨b, off + k, none⟩) hbl).trans hu0
      have hsu := hsu0.below hb
      obtain ⟨Au, cu, rfl, _, _⟩ := hsu.form
      have hfl := flat_one L hlt
      have hsn := Lib.hid (flat_snoc L hlt)
      have hle := flat_le L k
      clear hx hs hu0 hsu0
      generalize L[k] = m at hu hsu hfl hsn
      generalize (flatTo L k) = fl at hrow hfl hsn hle
      go_wp2_with (at_builtin; refine wpList_append_sees _ rfl (.tmp 13) (.tmp 17) 23 rfl w.heap.size 3 i0 (.int .i64 0) 1 8 Try.underlying23 hi hz0 hz1 hz2 rfl (by decide) (.slice A' fl.length c') fl.length _ rfl hrow _ _ m.length _ rfl hsu (int_cell _) (by unfold maxLen; omega) (by omega) hbs ?_; intro v2 w2 hown2 hg2 hn2 _; have hb2 := below_own hb hrow hg2 (Nat.le_refl _) hbs; clear hn2)
      go_roundw
      case rel => exact ⟨k + 1, by omega, by go_num, by rw [hsn.out, List.length_append, List.map_append]; exact hown2, hb2⟩
      case measure => simp [intOf]; omega
    · obtain rfl : k = L.length := by omega
      have hlen := Lib.hid (List.length_eq_zero_iff (l := flat L))
      clear hs
      go_wp2
      go_ret2
      refine ⟨_, _, rfl, by rw [← flatTo_all]; exact hrow, ?_, hb⟩
      rw [← hlen.out, ← flatTo_all]
      simp only [beq_iff_eq]
      omega

end Go.Proofs.Ytmfmpfcgllpflaa
