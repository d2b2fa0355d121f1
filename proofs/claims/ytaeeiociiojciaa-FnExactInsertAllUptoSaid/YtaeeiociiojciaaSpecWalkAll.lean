/-
  The contract of spec.WalkAll: the first indices with their elements. No statement is proved here.
-/
import Derived.Test.YtaeeiociiojciaaAll
import Derived.Test.YtaeeiociiojciaaCut
namespace Go.Proofs.Ytaeeiociiojciaa
open Go.RowKit Go.Shelf

theorem allOf_take_min (zs : List Int) (m : Nat) : (allOf zs).take m = (allOf zs).take (min zs.length m) := by
  rcases Nat.le_total zs.length m with h | h
  · rw [Nat.min_eq_left h, List.take_of_length_le (by rw [allOf_length]; exact h), List.take_of_length_le (by rw [allOf_length]; exact Nat.le_refl _)]
  · rw [Nat.min_eq_right h]

set_option maxHeartbeats 1000000 in
/-- spec.WalkAll -/
theorem specWalkAll_calls (w : World) (B : Nat) (sv : Value) (zs : List Int) (most : Int) (hI : SeesI w B sv zs) (hB : B ≤ w.heap.size) (hz : zs.length * 16 ≤ 140737488351232) :
    Calls Try.prog 30 #[sv, .int .i64 most] w fun e w' =>
      ∃ v, e = .returned v ∧ w'.ownsRow w.heap.size 36 2 v ((allOf zs).take most.toNat).length (pcells ((allOf zs).take most.toNat)) ∧ Below w.heap.size w w' := by
  obtain ⟨i0, hi, hz0, hz1, hz2⟩ := info_parts Try.infoPair
  rw [allOf_take_min]
  have hlen : ((allOf zs).take (min zs.length most.toNat)).length = min zs.length most.toNat := by rw [List.length_take, allOf_length]; omega
  rw [hlen]
  clear hlen
  have hown0 := own_empty w w.heap.size 2 36 (Nat.le_refl _)
  have hb0 := (Below.refl w.heap.size w).alloc (Nat.le_refl _) (.cells #[] 36)
  have hI' := (hI.more hB)
  obtain ⟨A, c, rfl, _, hs⟩ := hI'.form
  clear hI hI'
  go_enter Try.func30, Try.ntmps30
  go_wp2_with fail
  go_loopw [5, 6] (fun v i wr => ∃ k : Nat, k ≤ min zs.length most.toNat ∧ i = .int .i64 k ∧ wr.ownsRow w.heap.size 36 2 v k (pcells ((allOf zs).take k)) ∧ Below w.heap.size w wr) (fun _ i _ => min zs.length most.toNat - (intOf i).toNat)
  case atStart => exact ⟨0, Nat.zero_le _, rfl, hown0, hb0⟩
  case round =>
    obtain ⟨k, hk, rfl, hrow, hb⟩ := hrel
    clear hown0 hb0
    obtain ⟨A', c', rfl, _⟩ := own_form hrow
    by_cases hlt : k < min zs.length most.toNat
    · have hkz : k < zs.length := by omega
      obtain ⟨b, off, rfl, hbl, hx⟩ := hs (by omega)
      have hcx : wr.cell? ⟨b, off + k, none⟩ = some (.int .i64 (zs[k]?.getD 0)) := (hb.cell (p := ⟨b, off + k, none⟩) hbl).trans (hx k hkz)
      rw [List.getElem?_eq_getElem hkz] at hcx
      simp only [Option.getD_some] at hcx
      have hsn := Lib.hid (allOf_snoc zs hkz)
      clear hx hs
      generalize zs[k] = z at hcx hsn
      have hbs := hb.size
      go_wp2_with (first
        | (go_at_call 40; refine (cut_calls _ _ _ (by omega)).mono ?_; rintro e w' ⟨rfl, rfl⟩)
        | (at_builtin; refine wpList_append_own _ rfl _ _ 24 rfl w.heap.size 36 i0 (.agg #[.int .i64 0, .int .i64 0]) 2 16 Try.underlying24 hi hz0 hz1 hz2 rfl (by decide) _ _ _ rfl (hrow.alloc _) ⟨wr.heap.size, 0, none⟩ 1 1 [.int .i64 k, .int .i64 z] rfl rfl (pair_new _ _ _ _) (by simp [Value.oneCell']) (by unfold maxLen; omega) (by omega) (by simp; omega) ?_; intro v' w1 hown' hgrow _; have hb1 := below_own (hb.alloc hb.size _) (hrow.alloc _) hgrow (Nat.le_refl _) (by simp; omega)))
      go_roundw
      case rel => exact ⟨k + 1, by omega, by go_num, by rw [hsn.out, pcells_append]; exact hown', hb1⟩
      case measure => simp [intOf]; omega
    · obtain rfl : k = min zs.length most.toNat := by omega
      clear hs
      go_wp2_with (go_at_call 40; refine (cut_calls _ _ _ (by omega)).mono ?_; rintro e w' ⟨rfl, rfl⟩)
      go_ret
      exact ⟨_, rfl, hrow, hb⟩

end Go.Proofs.Ytaeeiociiojciaa
