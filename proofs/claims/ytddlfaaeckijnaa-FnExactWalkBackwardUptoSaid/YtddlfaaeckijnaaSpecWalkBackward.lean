/-
  The contract of spec.WalkBackward: the last indices with their elements, the last one first. No statement is proved here.
-/
import Derived.Test.YtddlfaaeckijnaaBackward
import Derived.Test.YtddlfaaeckijnaaCut
namespace Go.Proofs.Ytddlfaaeckijnaa
open Go.RowKit Go.Shelf

theorem backOf_take_min (zs : List Int) (m : Nat) : (backOf zs).take m = (backOf zs).take (min zs.length m) := by
  rcases Nat.le_total zs.length m with h | h
  · rw [Nat.min_eq_left h, List.take_of_length_le (by rw [backOf_length]; exact h), List.take_of_length_le (by rw [backOf_length]; exact Nat.le_refl _)]
  · rw [Nat.min_eq_right h]

set_option maxHeartbeats 1000000 in
/-- spec.WalkBackward -/
theorem specWalkBackward_calls (w : World) (B : Nat) (sv : Value) (zs : List Int) (most : Int) (hI : SeesI w B sv zs) (hB : B ≤ w.heap.size) (hz : zs.length * 16 ≤ 140737488351232) :
    Calls Try.prog 22 #[sv, .int .i64 most] w fun e w' =>
      ∃ v, e = .returned v ∧ w'.ownsRow w.heap.size 51 2 v ((backOf zs).take most.toNat).length (pcells ((backOf zs).take most.toNat)) ∧ Below w.heap.size w w' := by
  obtain ⟨i0, hi, hz0, hz1, hz2⟩ := info_parts Try.infoPair
  rw [backOf_take_min]
  have hlen : ((backOf zs).take (min zs.length most.toNat)).length = min zs.length most.toNat := by rw [List.length_take, backOf_length]; omega
  rw [hlen]
  clear hlen
  have hown0 := own_empty w w.heap.size 2 51 (Nat.le_refl _)
  have hb0 := (Below.refl w.heap.size w).alloc (Nat.le_refl _) (.cells #[] 51)
  have hI' := (hI.more hB)
  obtain ⟨A, c, rfl, _, hs⟩ := hI'.form
  clear hI hI'
  go_enter Try.func22, Try.ntmps22
  go_wp2_with fail
  go_loopw [5, 6] (fun v i wr => ∃ k : Nat, k ≤ min zs.length most.toNat ∧ i = .int .i64 ((zs.length : Int) - 1 - (k : Int)) ∧ wr.ownsRow w.heap.size 51 2 v k (pcells ((backOf zs).take k)) ∧ Below w.heap.size w wr) (fun _ i _ => (intOf i + 1).toNat)
  case atStart => exact ⟨0, Nat.zero_le _, by simp, hown0, hb0⟩
  case round =>
    obtain ⟨k, hk, rfl, hrow, hb⟩ := hrel
    clear hown0 hb0
    obtain ⟨A', c', rfl, _⟩ := own_form hrow
    by_cases hlt : k < min zs.length most.toNat
    · have hkz : k < zs.length := by omega
      obtain ⟨b, off, rfl, hbl, hx⟩ := hs (by omega)
      have hkr : zs.length - 1 - k < zs.length := by omega
      have hcx : wr.cell? ⟨b, off + (zs.length - 1 - k), none⟩ = some (.int .i64 (zs[zs.length - 1 - k]?.getD 0)) := (hb.cell (p := ⟨b, off + (zs.length - 1 - k), none⟩) hbl).trans (hx _ hkr)
      rw [List.getElem?_eq_getElem hkr] at hcx
      simp only [Option.getD_some] at hcx
      have hsn := Lib.hid (backOf_snoc zs hkz)
      clear hx hs
      generalize zs[zs.length - 1 - k] = z at hcx hsn
      have hbs := hb.size
      go_wp2_with (first
        | (go_at_call 39; refine (cut_calls _ _ _ (by omega)).mono ?_; rintro e w' ⟨rfl, rfl⟩)
        | (at_builtin; refine wpList_append_own _ rfl _ _ 26 rfl w.heap.size 51 i0 (.agg #[.int .i64 0, .int .i64 0]) 2 16 Try.underlying26 hi hz0 hz1 hz2 rfl (by decide) _ _ _ rfl (hrow.alloc _) ⟨wr.heap.size, 0, none⟩ 1 1 [.int .i64 ((zs.length : Int) - 1 - (k : Int)), .int .i64 z] rfl rfl (pair_new _ _ _ _) (by simp [Value.oneCell']) (by unfold maxLen; omega) (by omega) (by simp; omega) ?_; intro v' w1 hown' hgrow _; have hb1 := below_own (hb.alloc hb.size _) (hrow.alloc _) hgrow (Nat.le_refl _) (by simp; omega)))
      go_roundw
      case rel => exact ⟨k + 1, by omega, by go_num, by rw [hsn.out, pcells_append]; exact hown', hb1⟩
      case measure => simp [intOf]; omega
    · obtain rfl : k = min zs.length most.toNat := by omega
      clear hs
      go_wp2_with (go_at_call 39; refine (cut_calls _ _ _ (by omega)).mono ?_; rintro e w' ⟨rfl, rfl⟩)
      go_ret
      exact ⟨_, rfl, hrow, hb⟩

end Go.Proofs.Ytddlfaaeckijnaa
