/-
  The contract of spec.Below. No statement is proved here.
-/
import Derived.Test.YtlibakmllogcdaaFloatKit
namespace Go.Proofs.Ytlibakmllogcdaa
open Go.RowKit Go.Shelf Go.Sort

/-- spec.Below -/
theorem specBelow_calls (x y : Nat) (w : World) : Calls Try.prog 11 #[.float .f64 x, .float .f64 y] w fun e w' => e = .returned (.bool (ltF x y)) ∧ w = w' := by
  have hx : (FloatKind.f64.format.order x x != some .eq) = nanF x := by
    unfold bne
    rw [order_self]
    simp
  have hy : (FloatKind.f64.format.order y y == some .eq) = !nanF y := order_self y
  rw [ltF_eq]
  generalize hl : (FloatKind.f64.format.order x y == some .lt) = l
  cases hnx : nanF x with
  | true =>
    rw [hnx] at hx
    cases hny : nanF y with
    | true =>
      rw [hny] at hy
      go_enter Try.func11, Try.ntmps11
      go_wp2
      go_ret
      exact ⟨rfl, rfl⟩
    | false =>
      rw [hny] at hy
      go_enter Try.func11, Try.ntmps11
      go_wp2
      go_ret
      exact ⟨rfl, rfl⟩
  | false =>
    rw [hnx] at hx
    go_enter Try.func11, Try.ntmps11
    go_wp2
    go_ret
    exact ⟨rfl, rfl⟩

end Go.Proofs.Ytlibakmllogcdaa
