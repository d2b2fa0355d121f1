/-
  The contract of spec.All. No statement is proved here.
-/
import Derived.Test.YtaeeiociiojciaaSpecWalkAll
namespace Go.Proofs.Ytaeeiociiojciaa
open Go.RowKit Go.Shelf

/-- spec.All -/
theorem specAll_calls (w : World) (B : Nat) (sv : Value) (zs : List Int) (hI : SeesI w B sv zs) (hB : B ≤ w.heap.size) (hz : zs.length * 16 ≤ 140737488351232) :
    Calls Try.prog 16 #[sv] w fun e w' =>
      ∃ v, e = .returned v ∧ w'.ownsRow w.heap.size 36 2 v (allOf zs).length (pcells (allOf zs)) ∧ Below w.heap.size w w' := by
  have hc := Lib.hid (specWalkAll_calls w B sv zs (zs.length : Int) hI hB hz)
  obtain ⟨A, c, rfl, _⟩ := hI.form
  go_enter Try.func16, Try.ntmps16
  go_wp2_with fail
  refine hc.out.mono ?_
  rintro e w1 ⟨x, rfl, hx, hb1⟩
  rw [Int.toNat_natCast, List.take_of_length_le (by rw [allOf_length]; exact Nat.le_refl _)] at hx
  go_wp2_with fail
  go_ret
  exact ⟨x, rfl, hx, hb1⟩

end Go.Proofs.Ytaeeiociiojciaa
