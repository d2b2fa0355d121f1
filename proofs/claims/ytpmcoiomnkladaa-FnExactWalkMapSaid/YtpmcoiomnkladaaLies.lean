/-
  A region that draws its order, and whose calls lay new blocks: the kit's law on quiet regions at the class of all worlds in which what lay below H lies as it lay. No statement is proved here.
-/
import Derived.Test.YtpmcoiomnkladaaDrawn
import Derived.BigQuiet
namespace Go.Proofs.Ytpmcoiomnkladaa
open Go.RowKit Go.Shelf

/-- A world in which all that lay below H in W lies as it lay. -/
structure Lies (H : Nat) (W : World) where
  w : World
  h : Below H W w

instance lies_some (H : Nat) (W : World) : Nonempty (Lies H W) := ⟨⟨W, Below.refl _ _⟩⟩

theorem wp_region_lies {P : Program} {id : Nat} {Q : Exit → Act → World → Prop} {a : Act} {w : World} {l : List Oper} {H : Nat} {W : World} (hm : P.follows .mixedOrders = true) (hB : Region.lexB .any l.toArray = true) (h0 : Below H W w)
    (h : wpQuiet P l.toArray (fun w' => ∃ s : Lies H W, w' = s.w) (fun a' => ∀ w', (∃ s : Lies H W, w' = s.w) → Q .normal a' w') l a) : (Code.region id l.toArray true).wp P Q a w :=
  wp_region_quiet (C := fun w' => ∃ s : Lies H W, w' = s.w) hm hB ⟨⟨_, below_drew h0⟩, rfl⟩ h

end Go.Proofs.Ytpmcoiomnkladaa
