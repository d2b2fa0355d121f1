/-
  The contract of laws.turned. No statement is proved here.
-/
import Derived.Test.YtfagmnjhpipndaaBase
namespace Go.Proofs.Ytfagmnjhpipndaa
open Go.RowKit Go.Shelf

theorem rev_snoc (zs : List Int) {k : Nat} (h : k < zs.length) : zs.reverse.take (k + 1) = zs.reverse.take k ++ [zs[zs.length - 1 - k]] := by
  rw [List.take_succ_eq_append_getElem (by rw [List.length_reverse]; exact h), List.getElem_reverse]

set_option maxRecDepth 100000 in
set_option maxHeartbeats 1000000 in
/-- laws.turned -/
theorem turned_calls (w : World) (B : Nat) (sv : Value) (zs : List Int) (hI : SeesI w B sv zs) (hB : B ≤ w.heap.size) (hz : (zs.length + 1) * 8 ≤ 140737488355328) :
    Calls Try.prog 26 #[sv] w fun e w' => ∃ v, e = .returned v ∧ w'.ownsRow w.heap.size 3 1 v zs.reverse.length (zs.reverse.map (Value.int .i64)) ∧ Below w.heap.size w w' := by
  obtain ⟨i0, hi, hz0, hz1, hz2⟩ := info_parts Try.infoInt
  have hown0 := own_empty w w.heap.size 1 3 (Nat.le_refl _)
  have hb0 := (Below.refl w.heap.size w).alloc (Nat.le_refl _) (.cells #[] 3)
  obtain ⟨A, c, rfl, _, hs⟩ := (hI.more hB).form
  clear hI
  go_enter Try.func26, Try.ntmps26
  go_wp2_with fail
  go_loopw [3, 4] (fun v i wr => ∃ k : Nat, k ≤ zs.length ∧ i = .int .i64 ((zs.length : Int) - 1 - (k : Int)) ∧ wr.ownsRow w.heap.size 3 1 v k ((zs.reverse.take k).map (Value.int .i64)) ∧ Below w.heap.size w wr) (fun _ i _ => (intOf i + 1).toNat)
  case atStart => exact ⟨0, Nat.zero_le _, by simp, hown0, hb0⟩
  case round =>
    obtain ⟨k, hk, rfl, hrow, hb⟩ := hrel
    clear hown0 hb0
    obtain ⟨A', c', rfl, _⟩ := own_form hrow
    by_cases hlt : k < zs.length
    · obtain ⟨b, off, rfl, hbl, hx⟩ := hs (by omega)
      have hkr : zs.length - 1 - k < zs.length := by omega
      have hcx : wr.cell? ⟨b, off + (zs.length - 1 - k), none⟩ = some (.int .i64 (zs[zs.length - 1 - k]?.getD 0)) := (hb.cell (p := ⟨b, off + (zs.length - 1 - k), none⟩) hbl).trans (hx _ hkr)
      rw [List.getElem?_eq_getElem hkr] at hcx
      simp only [Option.getD_some] at hcx
      have hsn := Lib.hid (rev_snoc zs hlt)
      clear hx hs
      generalize zs[zs.length - 1 - k] = z at hcx hsn
      have hbs := hb.size
      go_wp2_with (at_builtin; refine wpList_append_own _ rfl _ _ 25 rfl w.heap.size 3 i0 (.int .i64 0) 1 8 Try.underlying25 hi hz0 hz1 hz2 rfl (by decide) _ _ _ rfl (hrow.alloc _) ⟨wr.heap.size, 0, none⟩ 1 1 [.int .i64 z] rfl rfl (cell_one_new _ _ _) (by simp [Value.oneCell']) (by unfold maxLen; omega) (by omega) (by simp; omega) ?_; intro v' w1 hown' hgrow _; have hb1 := below_own (hb.alloc hb.size _) (hrow.alloc _) hgrow (Nat.le_refl _) (by simp; omega))
      go_roundw
      case rel => exact ⟨k + 1, by omega, by go_num, by rw [hsn.out, List.map_append]; exact hown', hb1⟩
      case measure => simp [intOf]; omega
    · obtain rfl : k = zs.length := by omega
      rw [List.take_of_length_le (by rw [List.length_reverse]; exact Nat.le_refl _)] at hrow
      clear hs
      go_wp2_with fail
      go_ret
      exact ⟨_, rfl, by rw [List.length_reverse]; exact hrow, hb⟩

end Go.Proofs.Ytfagmnjhpipndaa
