/-
  The list of the one pair (7, 1). No statement is proved here.
-/
import Derived.Test.YtfagmnjhpipndaaMaps
namespace Go.Proofs.Ytfagmnjhpipndaa
open Go.RowKit Go.Shelf Go.Maps

theorem sees_pair7 (w : World) : SeesP (w.alloc (.cells #[.int .i64 7, .int .i64 1] 32)) (w.alloc (.cells #[.int .i64 7, .int .i64 1] 32)).heap.size (.slice (some ⟨w.heap.size, 0, none⟩) 1 1) [((7 : Int), (1 : Int))] :=
  SeesP.own (base := 0) (World.ownsRow_lit (base := 0) (e := 32) (size := 2) w #[.int .i64 7, .int .i64 1] 1 (Nat.zero_le _) (by unfold maxLen; omega) rfl)
theorem fits_pair7 : Fits [((7 : Int), (1 : Int))] := fun p hp => by
  rw [List.mem_singleton.1 hp]
  exact ⟨by decide, by decide⟩

end Go.Proofs.Ytfagmnjhpipndaa
