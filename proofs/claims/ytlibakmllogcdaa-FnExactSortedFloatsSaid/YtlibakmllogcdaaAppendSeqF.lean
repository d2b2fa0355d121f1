/-
  The contracts of slices.AppendSeq and slices.Collect at floating-point numbers, over whatever iterator keeps its word. No statement is proved here.
-/
import Derived.Test.YtlibakmllogcdaaFloats
namespace Go.Proofs.Ytlibakmllogcdaa
open Go.RowKit Go.Shelf
attribute [local go_sem] Oper.semAt_some

set_option maxRecDepth 100000 in
set_option maxHeartbeats 1000000 in
/-- slices.AppendSeq -/
theorem appendSeqF_calls {Kp : World → World → Prop} {S Sp : List Nat → Prop} (w : World) (base n N g : Nat) (lb : Array Value) (sv : Value) (ys : List Value)
    (hrow : w.ownsRow base 32 1 sv n ys) (hbase : base ≤ w.heap.size) (eg : ∀ args W, (callFunc g args).run Try.prog W = .ok (.enter g args) W)
    (hseq : SeqStopsK Fence.wide 4 Try.prog g lb (fun x : Nat => #[Value.float .f64 x]) Kp S Sp N w)
    (hKt : ∀ {A B C : World}, Kp A B → Kp B C → Kp A C) (hKb : ∀ (W : World) (l : Nat) (o o' : Obj), w.heap.size ≤ l → W.heap[l]? = some o → o.isCells = false → o.isWalk = false → Kp W (W.putObj l o'))
    (hKp : ∀ W W' : World, Below base W W' → KeepsOthers W W' → Kp W W') (hN : (n + N) * 8 ≤ 140737488355328) :
    Calls Try.prog 31 #[sv, .func (.func g) #[] lb] w fun e w' =>
      ∃ v xs, e = .returned v ∧ S xs ∧ w'.ownsRow base 32 1 v (n + xs.length) (ys ++ xs.map (Value.float .f64)) ∧ (v = .slice none 0 0 ↔ sv = .slice none 0 0 ∧ xs = []) ∧ Below base w w' := by
  obtain ⟨A, c, rfl, _⟩ := own_form hrow
  obtain ⟨i0, hi, hz0, hz1, hz2⟩ := info_parts Try.infoFlt
  refine (callsIn_wide (n := 5)).1 ?_
  refine callsIn_of_wp_marks Try.func31 rfl trivial ?_ rfl
  simp only [Try.ntmps31, List.size_toArray, List.length_cons, List.length_nil, Nat.reduceAdd, Nat.reduceSub, Array.replicate_succ, Array.replicate_zero, List.push_toArray, List.append_toArray, List.nil_append, List.cons_append]
  gi_wp2
  have bO := Boxed.new w 29 (.slice A n c)
  have hr1 := hrow.alloc (.cells #[.slice A n c] 29)
  have hB0 := (Below.refl w.heap.size w).alloc (Nat.le_refl _) (.cells #[.slice A n c] 29)
  have hsz : (w.alloc (.cells #[.slice A n c] 29)).heap.size = w.heap.size + 1 := by simp
  generalize w.alloc (.cells #[.slice A n c] 29) = W0 at bO hr1 hB0 hsz ⊢
  have hB1 := hB0.mono hbase
  refine wpIn_rangeFunc_ownG rfl (by omega) (gf := g) (lb := lb) rfl trivial eg hseq hKt (fun W l o o' hl => hKb W l o o' (by omega)) hB0 (fun _ => rfl)
    (fun pre W => (∃ v, Boxed W w.heap.size 29 v ∧ W.ownsRow base 32 1 v (n + pre.length) (ys ++ pre.map (Value.float .f64)) ∧ (v = .slice none 0 0 ↔ Value.slice A n c = .slice none 0 0 ∧ pre = [])) ∧ Below base w W)
    (fun _ _ _ => False)
    (OwnFrom.and (Own.from (holdsRow_own _ _ _ _ 1 (fun pre : List Nat => n + pre.length) (fun pre => ys ++ pre.map (Value.float .f64)) (fun pre v => v = .slice none 0 0 ↔ Value.slice A n c = .slice none 0 0 ∧ pre = [])) _) (ownFrom_below hbase (by omega)))
    (fun _ _ _ _ _ hs _ _ => hs)
    ⟨⟨_, bO, by simpa using hr1, by simp⟩, hB1⟩
    (fun x => { tmps := #[.slice A n c, .func (.func g) #[] lb, .pointer (some ⟨w.heap.size, 0, none⟩), undef, .slice none 0 0, .float .f64 x, .func (.func g) #[] lb, .float .f64 x, undef, undef, undef, undef, undef], defers := [] }) ?assign ?body ?done ?stop
  case assign =>
    intro l x W K hK
    gi_wp2
    exact hK
  case body =>
    rintro l pre x W ⟨⟨v, hv, hrow', hnil⟩, hB⟩ hlt
    have Hnil := Lib.hid hnil
    clear hnil
    obtain ⟨A', c', rfl, _⟩ := own_form hrow'
    have hcv := hv.cell
    have hfv := hv.frozen
    have hm := hv.lt
    gi_wp2_with (gi_at_builtin; refine wpListIn_append_own _ rfl _ _ 29 rfl base 32 i0 (.float .f64 0) 1 8 Try.underlying29 hi hz0 hz1 hz2 rfl (by decide) _ _ _ rfl (hrow'.alloc _) ⟨W.heap.size, 0, none⟩ 1 1 [.float .f64 x] rfl rfl (cell_one_new _ _ _) (by simp [Value.oneCell']) (by unfold maxLen; omega) (by omega) (by simp; omega) ?_; intro v' w1 hown' hgrow _; obtain ⟨g', cap', rfl⟩ := ownsRow_succ hown'; obtain ⟨hv1, hv2, hr2, hk2, hb2⟩ := hv.appended (by decide) hrow' (by omega) hbase hown' hgrow; have hc1 := hv1.cell; have hf1 := hv1.frozen)
    exact ⟨hk2.from _, hKp _ _ hb2 hk2, ⟨_, hv2, by simpa [Nat.add_assoc] using hr2, by simp⟩, hB.trans hb2⟩
  case done =>
    rintro D xs W hD hS ⟨⟨v, hv, hrow', hnil⟩, hB⟩ hK
    have Hnil := Lib.hid hnil
    clear hnil
    obtain ⟨A', c', rfl, _⟩ := own_form hrow'
    have hcv := hv.cell
    gi_wp2
    refine ⟨by simp, .inl ⟨_, _, rfl, run_takeDeferred hK, ?_⟩⟩
    exact ⟨_, results_tmp rfl _ _ _, .slice A' (n + xs.length) c', xs, rfl, hS, ownsRow_putObj hrow' _ hK rfl, Hnil.out, hB.trans (belowK_b (w := w) hbase W D _ _ (by omega) hK rfl rfl)⟩
  case stop =>
    rintro D cd pre W _ _ h _
    exact h.elim

end Go.Proofs.Ytlibakmllogcdaa
