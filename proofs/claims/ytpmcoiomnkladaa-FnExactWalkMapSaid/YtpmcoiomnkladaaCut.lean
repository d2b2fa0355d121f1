/-
  The contract of spec.Cut. No statement is proved here.
-/
import Derived.Test.YtpmcoiomnkladaaBase
namespace Go.Proofs.Ytpmcoiomnkladaa
open Go.RowKit Go.Shelf

theorem ret_int {k : IntKind} {a b : Int} (h : a = b) : Ending.returned (.int k a) = .returned (.int k b) := by rw [h]

set_option maxHeartbeats 400000 in
/-- spec.Cut -/
theorem cut_calls (w : World) (all : Nat) (most : Int) (hall : all ≤ 1000000000000000000) :
    Calls Try.prog 17 #[.int .i64 (all : Int), .int .i64 most] w fun e w' => e = .returned (.int .i64 ((min all most.toNat : Nat) : Int)) ∧ w = w' := by
  go_enter Try.func17, Try.ntmps17
  go_wp2
  all_goals (go_ret; exact ⟨ret_int (by omega), rfl⟩)

end Go.Proofs.Ytpmcoiomnkladaa
