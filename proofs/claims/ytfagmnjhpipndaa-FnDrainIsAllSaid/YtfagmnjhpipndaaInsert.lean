/-
  The contracts of maps.Insert and maps.Collect at ints, over whatever iterator over pairs keeps its word. No statement is proved here.
-/
import Derived.Test.YtfagmnjhpipndaaMapIter
import Derived.Test.YtfagmnjhpipndaaRange
namespace Go.Proofs.Ytfagmnjhpipndaa
open Go.RowKit Go.Shelf Go.Maps
attribute [local go_sem] Oper.semAt_some

set_option maxRecDepth 100000 in
set_option maxHeartbeats 1000000 in
/-- maps.Insert -/
theorem minsert_calls {Kp : World → World → Prop} {S Sp : List Pr → Prop} (w : World) (b n N g : Nat) (lb : Array Value) (f : FMap)
    (hF : MapF w b n f) (eg : ∀ args W, (callFunc g args).run Try.prog W = .ok (.enter g args) W)
    (hseq : SeqStopsK Fence.wide 4 Try.prog g lb (fun x : Pr => #[Value.int .i64 x.1.1, Value.int .i64 x.1.2]) Kp S Sp N w)
    (hKt : ∀ {A B C : World}, Kp A B → Kp B C → Kp A C) (hKb : ∀ (W : World) (l : Nat) (o o' : Obj), w.heap.size ≤ l → W.heap[l]? = some o → o.isCells = false → o.isWalk = false → Kp W (W.putObj l o'))
    (hKp : ∀ W W' : World, w.heap.size ≤ W.heap.size → (∃ es c, W.heap[b]? = some (.map es c)) → W.grownBy W' (some b) → Kp W W') (hN : n + N ≤ 100000000000000000) :
    Calls Try.prog 63 #[.map (some b), .func (.func g) #[] lb] w fun e w' =>
      ∃ xs : List Pr, e = .returned (.tuple #[]) ∧ S xs ∧ xs.length ≤ N ∧ MapF w' b (n + xs.length) (ups f (xs.map (·.1))) ∧ w.grownBy w' (some b) := by
  have hbl := hF.lt
  refine (callsIn_wide (n := 5)).1 ?_
  refine callsIn_of_wp_marks Try.func63 rfl trivial ?_ rfl
  simp only [Try.ntmps63, List.size_toArray, List.length_cons, List.length_nil, Nat.reduceAdd, Nat.reduceSub, Array.replicate_succ, Array.replicate_zero, List.push_toArray, List.append_toArray, List.nil_append, List.cons_append]
  gi_wp2
  have bO := Boxed.new w 57 (.map (some b))
  have hF0 := hF.alloc (.cells #[.map (some b)] 57)
  have hB0 := (Below.refl w.heap.size w).alloc (Nat.le_refl _) (.cells #[.map (some b)] 57)
  have hg0 := World.grownBy_alloc w (.cells #[.map (some b)] 57) (some b)
  have hsz : (w.alloc (.cells #[.map (some b)] 57)).heap.size = w.heap.size + 1 := by simp
  generalize w.alloc (.cells #[.map (some b)] 57) = W0 at bO hF0 hB0 hg0 hsz ⊢
  refine rangeFunc2 (enc := fun x : Pr => Value.int .i64 x.1.1) (enc' := fun x : Pr => Value.int .i64 x.1.2) (by omega) (gf := g) (lb := lb) rfl eg hseq hKt (fun W l o o' hl => hKb W l o o' (by omega)) hB0 (by simp) (by simp) (by decide) (by decide)
    (fun pre W => MapF W b (n + pre.length) (ups f (pre.map (·.1))) ∧ Boxed W w.heap.size 57 (.map (some b)) ∧ w.grownBy W (some b) ∧ pre.length ≤ N)
    (fun _ _ _ => False)
    (fun pre A B row hs hg hr => by
      refine ⟨hs.1.kept hg (fun e => by have := (hr b e.symm).1; omega), ?_, hs.2.2.1.andThen hg (fun j e => .inl (by have := (hr j e).1; omega)), hs.2.2.2⟩
      exact hs.2.1.kept hg (fun e => by have := (hr _ e.symm).1; omega))
    (fun _ _ _ _ _ hs _ _ => hs)
    ⟨(show MapF W0 b (n + 0) (ups f []) from hF0), bO, hg0, Nat.zero_le _⟩ ?body ?done ?stop
  case body =>
    rintro l pre ⟨⟨x1, x2⟩, hx1, hx2⟩ W ⟨hm, hbx, hgw, hpl⟩ hlt
    dsimp only at hx1 hx2
    have hcx := hbx.cell
    have hml := hm.lt
    have hmap := hm.isMap
    obtain ⟨D, hown, hv⟩ := hm
    have hv' := Lib.hid (hv.put hown.isMap hx1 hx2)
    have hup := Lib.hid (ups_snoc f (pre.map (·.1)) (x1, x2))
    clear hv
    gi_wp2_with (gi_at_mapUpdate; refine wpListIn_mapUpdate_own _ rfl _ _ _ 57 rfl 3 3 kInt Try.underlying57 _ b (n + pre.length) _ rfl hown (by unfold maxLen; omega) _ _ _ rfl rfl (keyOf_int_mk Try.underlying3 hx1) _ [] (plainElem_int Try.underlying3 hx2) ?_; intro w1 hown1 hgrow1)
    have hmf : MapF w1 b (n + pre.length + 1) (upd (ups f (pre.map (·.1))) x1 x2) := ⟨_, hown1, hv'.out⟩
    refine ⟨KeepsFrom.of_grownBy hgrow1 (fun j e => by cases e; omega), hKp _ _ hgw.size hmap hgrow1, ?_, hbx.kept hgrow1 (fun e => by injection e with e; omega), hgw.andThen hgrow1 (fun j e => .inr e), by simp; omega⟩
    rw [List.map_append, List.map_cons, List.map_nil, hup.out, List.length_append]
    exact hmf
  case done =>
    rintro D xs W hD hS ⟨hm, hbx, hgw, hpl⟩ hK
    have hDl := (Array.getElem?_eq_some_iff.1 hK).1
    gi_wp2
    refine ⟨by simp, .inl ⟨_, _, rfl, run_takeDeferred hK, ?_⟩⟩
    exact ⟨_, results_none rfl _ _ _, xs, rfl, hS, hpl, hm.kept (grownBy_putObj' W D _) (fun e => by injection e with e; omega), hgw.andThen (grownBy_putObj' W D _) (fun j e => by cases e; left; omega)⟩
  case stop =>
    rintro D cd pre W _ _ h _
    exact h.elim

set_option maxHeartbeats 400000 in
/-- maps.Collect -/
theorem mcollect_calls {Kp : World → World → Prop} {S Sp : List Pr → Prop} (w : World) (N g : Nat) (lb : Array Value)
    (eg : ∀ args W, (callFunc g args).run Try.prog W = .ok (.enter g args) W)
    (hseq : SeqStopsK Fence.wide 4 Try.prog g lb (fun x : Pr => #[Value.int .i64 x.1.1, Value.int .i64 x.1.2]) Kp S Sp N (w.alloc (.map #[] 0)))
    (hKt : ∀ {A B C : World}, Kp A B → Kp B C → Kp A C) (hKb : ∀ (W : World) (l : Nat) (o o' : Obj), w.heap.size ≤ l → W.heap[l]? = some o → o.isCells = false → o.isWalk = false → Kp W (W.putObj l o'))
    (hKp : ∀ W W' : World, w.heap.size ≤ W.heap.size → (∃ es c, W.heap[w.heap.size]? = some (.map es c)) → W.grownBy W' (some w.heap.size) → Kp W W') (hN : N ≤ 100000000000000000) :
    Calls Try.prog 42 #[.func (.func g) #[] lb] w fun e w' =>
      ∃ xs : List Pr, e = .returned (.map (some w.heap.size)) ∧ S xs ∧ xs.length ≤ N ∧ MapF w' w.heap.size xs.length (ups noMap (xs.map (·.1))) ∧ Below w.heap.size w w' := by
  have hmm := @run_makeMap Try.prog
  have hc := Lib.hid (minsert_calls (w.alloc (.map #[] 0)) w.heap.size 0 N g lb noMap (mapF_new w) eg hseq hKt (fun W l o o' hl => hKb W l o o' (by simp at hl; omega)) (fun W W' h => hKp W W' (by simp at h; omega)) (by omega))
  clear hKt hKb hKp hseq eg
  go_enter Try.func42, Try.ntmps42
  go_wp2_with fail
  refine hc.out.mono ?_
  rintro e w' ⟨xs, rfl, hS, hxl, hm, hg⟩
  go_wp2_with fail
  go_ret
  exact ⟨xs, rfl, hS, hxl, by simpa using hm, ((Below.refl _ w).alloc (Nat.le_refl _) _).grown hg (by simp) (fun k e => by cases e; exact Nat.le_refl _)⟩

end Go.Proofs.Ytfagmnjhpipndaa
