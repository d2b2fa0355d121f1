/-
  The contracts of the functions that draw lists and numbers. No statement is proved here.
-/
import Derived.Test.YtpnlindmcomikaaDraw
namespace Go.Proofs.Ytpnlindmcomikaa
open Go.RowKit Go.Shelf

/-- A new reader. -/
theorem rd_new (w : World) (v : Value) (zs : List Int) (h : SeesB w w.heap.size v zs) (hl : zs.length ≤ 1048576) (hz : ∀ z ∈ zs, 0 ≤ z ∧ z ≤ 255) : RdAt (w.alloc (.cells #[v, .int .i64 0] 41)) w.heap.size 0 :=
  ⟨v, zs, World.alloc_heap_new w _, h.below ((Below.refl _ w).alloc (Nat.le_refl _) _), hl, hz⟩



/-- A list that was drawn: how it lies, how long it is, that its numbers fit. -/
def Listed (w : World) (B : Nat) (v : Value) (zs : List Int) : Prop := SeesI w B v zs ∧ zs.length ≤ 47 ∧ ∀ z ∈ zs, (Lit.int .i64 z).wf = true
theorem Listed.below {w w' : World} {B : Nat} {v : Value} {zs : List Int} (h : Listed w B v zs) (hb : Below B w w') : Listed w' B v zs := ⟨h.1.below hb, h.2⟩
theorem Listed.more {w : World} {B B' : Nat} {v : Value} {zs : List Int} (h : Listed w B v zs) (hb : B ≤ B') : Listed w B' v zs := ⟨h.1.more hb, h.2⟩

/-- What was drawn earlier stays as the reader goes on. -/
theorem Gone.sees {R p base : Nat} {w w' : World} {v : Value} {zs : List Int} (h : Gone R p w w') (hr : w.ownsRow base 3 1 v zs.length (zs.map (Value.int .i64))) (hb : R < base) : w'.ownsRow base 3 1 v zs.length (zs.map (Value.int .i64)) := h.own hr hb



end Go.Proofs.Ytpnlindmcomikaa
