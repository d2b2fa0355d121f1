/-
  The contracts of the functions that draw lists and numbers. No statement is proved here.
-/
import Derived.Test.YtmfmpfcgllpflaaDraw
namespace Go.Proofs.Ytmfmpfcgllpflaa
open Go.RowKit Go.Shelf

/-- A new reader. -/
theorem rd_new (w : World) (v : Value) (zs : List Int) (h : SeesB w w.heap.size v zs) (hl : zs.length ≤ 1048576) (hz : ∀ z ∈ zs, 0 ≤ z ∧ z ≤ 255) : RdAt (w.alloc (.cells #[v, .int .i64 0] 56)) w.heap.size 0 :=
  ⟨v, zs, World.alloc_heap_new w _, h.below ((Below.refl _ w).alloc (Nat.le_refl _) _), hl, hz⟩

def mosts (x all : Int) : List Int := [x, all, all + 1, 1, 0, all - 1, -1, 2, 9223372036854775807, -9223372036854775808]
theorem mosts_wf (x all : Int) (h0 : 0 ≤ x) (h1 : x ≤ 1000000) (h2 : 0 ≤ all) (h3 : all ≤ 1000000) : ∀ z ∈ mosts x all, (Lit.int .i64 z).wf = true := by
  intro z hz
  simp only [mosts, List.mem_cons, List.not_mem_nil, or_false] at hz
  rcases hz with rfl | rfl | rfl | rfl | rfl | rfl | rfl | rfl | rfl | rfl <;> exact WalkArith.wf_i64 (by omega)

set_option maxHeartbeats 400000 in
/-- spec.aMost -/
theorem aMost_calls (w : World) (R p all : Nat) (h : RdAt w R p) (hp : p ≤ 999999990) (hall : all ≤ 100000) :
    Calls Try.prog 35 #[.pointer (some ⟨R, 0, none⟩), .int .i64 (all : Int)] w (NumPost R p 2 w) := by
  go_enter Try.func35, Try.ntmps35
  go_wp2_with fail
  refine (pick_calls w R p _ h (by omega) (by omega)).mono ?_
  rintro e w1 ⟨r, rfl, hr0, hr1, hg⟩
  have hlt := hg.1.lt
  have hr2 : r ≤ 1000000 := by omega
  clear hr1
  go_wp2_with fail
  have hl := own_lit w1 (R + 1) (mosts r (all : Int)) (by omega) (by simp [mosts])
  refine (one_calls _ R (p + 1) _ (mosts r (all : Int)) (hg.1.alloc _) (by omega) hl (by simp [mosts]) (by simp [mosts])).mono ?_
  rintro e w2 ⟨x, rfl, hx, hg2⟩
  have hwf := mosts_wf r (all : Int) hr0 (by omega) (by omega) (by omega) x hx
  clear hl hx
  go_wp2_with fail
  go_ret
  exact ⟨x, p + 2, rfl, hwf, Nat.le_refl _, (hg.alloc _).trans hg2⟩

/-- A list that was drawn: how it lies, how long it is, that its numbers fit. -/
def Listed (w : World) (B : Nat) (v : Value) (zs : List Int) : Prop := SeesI w B v zs ∧ zs.length ≤ 47 ∧ ∀ z ∈ zs, (Lit.int .i64 z).wf = true
theorem Listed.below {w w' : World} {B : Nat} {v : Value} {zs : List Int} (h : Listed w B v zs) (hb : Below B w w') : Listed w' B v zs := ⟨h.1.below hb, h.2⟩
theorem Listed.more {w : World} {B B' : Nat} {v : Value} {zs : List Int} (h : Listed w B v zs) (hb : B ≤ B') : Listed w B' v zs := ⟨h.1.more hb, h.2⟩

/-- What was drawn earlier stays as the reader goes on. -/
theorem Gone.sees {R p base : Nat} {w w' : World} {v : Value} {zs : List Int} (h : Gone R p w w') (hr : w.ownsRow base 3 1 v zs.length (zs.map (Value.int .i64))) (hb : R < base) : w'.ownsRow base 3 1 v zs.length (zs.map (Value.int .i64)) := h.own hr hb



end Go.Proofs.Ytmfmpfcgllpflaa
