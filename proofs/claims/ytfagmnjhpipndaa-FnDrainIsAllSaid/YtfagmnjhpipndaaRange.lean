/-
  The range over a function with one loop variable, and with two, which are no boxes: the kit's law with the assignment carried out. No statement is proved here.
-/
import Derived.Test.YtfagmnjhpipndaaBase
namespace Go.Proofs.Ytfagmnjhpipndaa
open Go.RowKit Go.Shelf
attribute [local go_sem] Oper.semAt_some

/-- A turn of a block that is no cells does not touch what is seen. -/
theorem Sees.putObj {w : World} {B sz n l : Nat} {v : Value} {xs : List Value} {o : Obj} (h : Sees w B sz v n xs) (hl : w.heap[l]? = some o) (ho : o.isCells = false) (o' : Obj) : Sees (w.putObj l o') B sz v n xs := by
  obtain ⟨hlen, A, c, e, hc, hs⟩ := h
  refine ⟨hlen, A, c, e, hc, fun h0 => ?_⟩
  obtain ⟨b, off, hA, hb, hx⟩ := hs h0
  refine ⟨b, off, hA, hb, fun j hj => ?_⟩
  have h1 := hx j hj
  rw [List.getElem?_eq_getElem (by omega)] at h1 ⊢
  exact cell_kept h1 (grownBy_putObj' w l o') (fun r e => by cases e; exact ⟨o, hl, ho⟩)

section
variable {P : Program} {n : Nat} {α : Type} {g : Operand} {body : Code} {Q : Exit → Act → World → Prop} {a : Act} {w : World}

set_option maxHeartbeats 400000 in
/-- One loop variable. -/
theorem rangeFunc1 {p d k : Nat} {ty : TypeId} {pos : String} (h1 : 1 ≤ n) {gf : Nat} {lb : Array Value} (hg : a.eval g = .func (.func gf) #[] lb) (eg : ∀ args w, (callFunc gf args).run P w = .ok (.enter gf args) w)
    {enc : α → Value} {Kp : World → World → Prop} {S Sp : List α → Prop} {N : Nat} {w0 : World} (hseq : SeqStopsK Fence.wide (n - 1) P gf lb (fun x => #[enc x]) Kp S Sp N w0)
    (hKt : ∀ {A B C : World}, Kp A B → Kp B C → Kp A C) (hKb : ∀ (W : World) (l : Nat) (o o' : Obj), w.heap.size ≤ l → W.heap[l]? = some o → o.isCells = false → o.isWalk = false → Kp W (W.putObj l o')) (hb0 : Below w0.heap.size w0 w) (hp : p < a.tmps.size)
    (I : List α → World → Prop) (Ix : Code → List α → World → Prop) (hI : OwnFrom w.heap.size I) (hIx : ∀ c, OwnFrom w.heap.size (Ix c)) (h0 : I [] w)
    (hbody : ∀ (l : Nat) (pre : List α) (x : α) (W : World), I pre W → pre.length < N → body.wpIn (Fence.wide.inRound l) (n - 1 - 1) P (ownPostG w.heap.size Kp I Ix (pre ++ [x]) W) { tmps := (a.tmps.setIfInBounds p (enc x)).setIfInBounds d (enc x), defers := [] } W)
    (hdone : ∀ (D : Nat) (xs : List α) (W : World), w.heap.size ≤ D → S xs → I xs W → W.heap[D]? = some (.deferred (some [])) → Q .normal { a with defers := { target := .collected D, args := #[] } :: a.defers } W)
    (hstop : ∀ (D : Nat) (c : Code) (pre : List α) (W : World), w.heap.size ≤ D → Sp pre → Ix c pre W → W.heap[D]? = some (.deferred (some [])) → c.wpIn Fence.wide n P Q { a with defers := { target := .collected D, args := #[] } :: a.defers } W) :
    (Code.rangeFunc g #[p] (Code.region k #[{ dst := some d, op := Op.assign (Operand.tmp p), type := ty, pos := pos, after := #[], guard := none }] false) body).wpIn Fence.wide n P Q a w := by
  refine wpIn_rangeFunc_ownG rfl h1 hg trivial eg hseq hKt hKb hb0 (fun _ => rfl) I Ix hI hIx h0 (fun x => { tmps := (a.tmps.setIfInBounds p (enc x)).setIfInBounds d (enc x), defers := [] }) ?_ hbody hdone hstop
  intro l x W K hK
  simp only [List.zip_toArray, List.zip_cons_cons, List.zip_nil_right, List.size_toArray, List.length_cons, List.length_nil]
  have e : (a.tmps.setIfInBounds p (enc x)).getD p undef = enc x := by simp [hp]
  gi_wp2
  exact hK


set_option maxHeartbeats 400000 in
/-- Two loop variables. -/
theorem rangeFunc2 {p d k p' d' k' : Nat} {ty ty' : TypeId} {pos pos' : String} (h1 : 1 ≤ n) {gf : Nat} {lb : Array Value} (hg : a.eval g = .func (.func gf) #[] lb) (eg : ∀ args w, (callFunc gf args).run P w = .ok (.enter gf args) w)
    {enc enc' : α → Value} {Kp : World → World → Prop} {S Sp : List α → Prop} {N : Nat} {w0 : World} (hseq : SeqStopsK Fence.wide (n - 1) P gf lb (fun x => #[enc x, enc' x]) Kp S Sp N w0)
    (hKt : ∀ {A B C : World}, Kp A B → Kp B C → Kp A C) (hKb : ∀ (W : World) (l : Nat) (o o' : Obj), w.heap.size ≤ l → W.heap[l]? = some o → o.isCells = false → o.isWalk = false → Kp W (W.putObj l o')) (hb0 : Below w0.heap.size w0 w) (hp : p < a.tmps.size) (hp' : p' < a.tmps.size) (hne : p ≠ p') (hne' : d ≠ p')
    (I : List α → World → Prop) (Ix : Code → List α → World → Prop) (hI : OwnFrom w.heap.size I) (hIx : ∀ c, OwnFrom w.heap.size (Ix c)) (h0 : I [] w)
    (hbody : ∀ (l : Nat) (pre : List α) (x : α) (W : World), I pre W → pre.length < N → body.wpIn (Fence.wide.inRound l) (n - 1 - 1) P (ownPostG w.heap.size Kp I Ix (pre ++ [x]) W) { tmps := (((a.tmps.setIfInBounds p (enc x)).setIfInBounds p' (enc' x)).setIfInBounds d (enc x)).setIfInBounds d' (enc' x), defers := [] } W)
    (hdone : ∀ (D : Nat) (xs : List α) (W : World), w.heap.size ≤ D → S xs → I xs W → W.heap[D]? = some (.deferred (some [])) → Q .normal { a with defers := { target := .collected D, args := #[] } :: a.defers } W)
    (hstop : ∀ (D : Nat) (c : Code) (pre : List α) (W : World), w.heap.size ≤ D → Sp pre → Ix c pre W → W.heap[D]? = some (.deferred (some [])) → c.wpIn Fence.wide n P Q { a with defers := { target := .collected D, args := #[] } :: a.defers } W) :
    (Code.rangeFunc g #[p, p'] ((Code.region k #[{ dst := some d, op := Op.assign (Operand.tmp p), type := ty, pos := pos, after := #[], guard := none }] false).seq (Code.region k' #[{ dst := some d', op := Op.assign (Operand.tmp p'), type := ty', pos := pos', after := #[], guard := none }] false)) body).wpIn Fence.wide n P Q a w := by
  refine wpIn_rangeFunc_ownG rfl h1 hg trivial eg hseq hKt hKb hb0 (fun _ => rfl) I Ix hI hIx h0 (fun x => { tmps := (((a.tmps.setIfInBounds p (enc x)).setIfInBounds p' (enc' x)).setIfInBounds d (enc x)).setIfInBounds d' (enc' x), defers := [] }) ?_ hbody hdone hstop
  intro l x W K hK
  simp only [List.zip_toArray, List.zip_cons_cons, List.zip_nil_right, List.size_toArray, List.length_cons, List.length_nil]
  have e : ((a.tmps.setIfInBounds p (enc x)).setIfInBounds p' (enc' x)).getD p undef = enc x := by simp [hp, Ne.symm hne]
  have e' : (((a.tmps.setIfInBounds p (enc x)).setIfInBounds p' (enc' x)).setIfInBounds d (enc x)).getD p' undef = enc' x := by simp [hp', hne']
  gi_wp2
  exact hK

end
end Go.Proofs.Ytfagmnjhpipndaa
