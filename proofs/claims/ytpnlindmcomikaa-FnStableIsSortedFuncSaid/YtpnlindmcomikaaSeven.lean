/-
  [7], as the laws lay it. No statement is proved here.
-/
import Derived.Test.YtpnlindmcomikaaDrawLists
namespace Go.Proofs.Ytpnlindmcomikaa
open Go.RowKit Go.Shelf

theorem sees_seven' (w : World) : SeesI (w.alloc (.cells #[.int .i64 7] 3)) (w.alloc (.cells #[.int .i64 7] 3)).heap.size (.slice (some ⟨w.heap.size, 0, none⟩) 1 1) [7] :=
  SeesI.own (own_lit w 0 [7] (Nat.zero_le _) (by decide))
theorem seven_wf : ∀ z ∈ [(7 : Int)], (Lit.int .i64 z).wf = true := by decide
theorem below_seven (w : World) : Below w.heap.size w (w.alloc (.cells #[.int .i64 7] 3)) := (Below.refl w.heap.size w).alloc (Nat.le_refl _) _

end Go.Proofs.Ytpnlindmcomikaa
