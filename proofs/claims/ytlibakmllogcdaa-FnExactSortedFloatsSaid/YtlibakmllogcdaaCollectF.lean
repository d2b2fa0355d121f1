/-
  The contract of slices.Collect at floating-point numbers, over whatever iterator keeps its word. No statement is proved here.
-/
import Derived.Test.YtlibakmllogcdaaAppendSeqF
namespace Go.Proofs.Ytlibakmllogcdaa
open Go.RowKit Go.Shelf

set_option maxHeartbeats 400000 in
/-- slices.Collect -/
theorem collectF_calls {Kp : World → World → Prop} {S Sp : List Nat → Prop} (w : World) (N g : Nat) (lb : Array Value)
    (eg : ∀ args W, (callFunc g args).run Try.prog W = .ok (.enter g args) W)
    (hseq : SeqStopsK Fence.wide 4 Try.prog g lb (fun x : Nat => #[Value.float .f64 x]) Kp S Sp N w)
    (hKt : ∀ {A B C : World}, Kp A B → Kp B C → Kp A C) (hKb : ∀ (W : World) (l : Nat) (o o' : Obj), w.heap.size ≤ l → W.heap[l]? = some o → o.isCells = false → o.isWalk = false → Kp W (W.putObj l o'))
    (hKp : ∀ W W' : World, Below w.heap.size W W' → KeepsOthers W W' → Kp W W') (hN : N * 8 ≤ 140737488355328) :
    Calls Try.prog 25 #[.func (.func g) #[] lb] w fun e w' =>
      ∃ v xs, e = .returned v ∧ S xs ∧ w'.ownsRow w.heap.size 32 1 v xs.length (xs.map (Value.float .f64)) ∧ (v = .slice none 0 0 ↔ xs = []) ∧ Below w.heap.size w w' := by
  have hc := (appendSeqF_calls w w.heap.size 0 N g lb _ _ (World.ownsRow_nil w _ _ _) (Nat.le_refl _) eg hseq hKt hKb hKp (by omega)).mono (R' := fun e w' =>
      ∃ v xs, e = .returned v ∧ S xs ∧ w'.ownsRow w.heap.size 32 1 v xs.length (xs.map (Value.float .f64)) ∧ (v = .slice none 0 0 ↔ xs = []) ∧ Below w.heap.size w w') (by
    rintro e w' ⟨v, xs, rfl, hS, hr, hnil, hb⟩
    exact ⟨v, xs, rfl, hS, by simpa using hr, by simpa using hnil, hb⟩)
  have Hc := Lib.hid hc
  clear hc hKt hKb hKp hseq eg
  go_enter Try.func25, Try.ntmps25
  go_wp2_with fail
  refine Hc.out.mono ?_
  rintro e w' ⟨v, xs, rfl, hS, hr, hnil, hb⟩
  have Hn := Lib.hid hnil
  clear hnil
  go_wp2_with fail
  go_ret
  exact ⟨v, xs, rfl, hS, hr, Hn.out, hb⟩

end Go.Proofs.Ytlibakmllogcdaa
