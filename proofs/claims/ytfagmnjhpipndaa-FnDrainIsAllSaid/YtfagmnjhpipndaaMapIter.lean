/-
  The contracts of the iterators over a map of ints to ints: maps.All, maps.Keys, maps.Values. No statement is proved here.
-/
import Derived.Test.YtfagmnjhpipndaaMaps
namespace Go.Proofs.Ytfagmnjhpipndaa
open Go.RowKit Go.Shelf Go.Maps
attribute [local go_sem] Oper.semAt_some

/-- What a round must keep: the map, and every iterator over a map. -/
structure KeepsMap (b : Nat) (W W' : World) : Prop where
  size : W.heap.size ≤ W'.heap.size
  map : W'.heap[b]? = W.heap[b]?
  iter : ∀ (k : Nat) (m : Option Nat) (s : Nat) (se : Array Nat) (c : Nat), W.heap[k]? = some (.mapIter m s se c) → W'.heap[k]? = some (.mapIter m s se c)
theorem KeepsMap.refl (b : Nat) (W : World) : KeepsMap b W W := ⟨Nat.le_refl _, rfl, fun _ _ _ _ _ h => h⟩
theorem keepsMap_t {b : Nat} {A B C : World} (h : KeepsMap b A B) (k : KeepsMap b B C) : KeepsMap b A C := ⟨Nat.le_trans h.size k.size, k.map.trans h.map, fun i m s se c hi => k.iter i m s se c (h.iter i m s se c hi)⟩
theorem keepsMap_b {b : Nat} {w : World} (hb : b < w.heap.size) (W : World) (l : Nat) (o o' : Obj) (hl : w.heap.size ≤ l) (h : W.heap[l]? = some o) (_ : o.isCells = false) (hw : o.isWalk = false) : KeepsMap b W (W.putObj l o') :=
  ⟨by simp, World.putObj_heap_other (by omega), fun k m s se c hk => by
    by_cases e : k = l
    · subst e; rw [h] at hk; cases hk; cases hw
    · exact (World.putObj_heap_other e).trans hk⟩
theorem keepsMap_of {b n : Nat} {W W' : World} (hb : Below n W W') (hn : b < n) (hk : KeepsOthers W W') : KeepsMap b W W' := ⟨hb.size, hb.block b hn, fun k _ _ _ _ h => hk.same k _ h rfl⟩
theorem ranges_keeps {H : Type} {P : Program} {k : TypeId} {R : Value → Option (DataW H × List MemPlace)} {w w' : World} {b r n : Nat} {D : DataW H} {left : Lit → Bool} {cnt : Nat}
    (h : w.ranges P k R b r n D left cnt) (hk : KeepsMap b w w') : w'.ranges P k R b r n D left cnt := by
  obtain ⟨es, clock, since, seen, c0, hb, F, hs, hD, hr, rest⟩ := h
  exact ⟨es, clock, since, seen, c0, hk.map.trans hb, F, hs, hD, hk.iter _ _ _ _ _ hr, rest⟩

/-- As far as a range over a map has come. -/
def Came (f : FMap) (left : Lit → Bool) (xs : List (Int × Int)) : Prop := (xs.map (·.1)).Nodup ∧ ∀ k v, (k, v) ∈ xs ↔ (f k = some v ∧ left (.int .i64 k) = false)
theorem Came.start {D : DataW Unit} {f : FMap} (h : MapView D f) : Came f (has D) [] :=
  ⟨List.nodup_nil, fun k v => ⟨fun e => (by cases e), fun e => by rw [(h.hit k v e.1).1] at e; cases e.2⟩⟩
theorem Came.step {D : DataW Unit} {f : FMap} {left : Lit → Bool} {xs : List (Int × Int)} (hv : MapView D f) (h : Came f left xs) {x c : Int} (hw : (Lit.int .i64 x).wf = true) (hl : left (.int .i64 x) = true) (hat : ∀ z, D.atKey (.int .i64 x) z = .lit (.int .i64 c)) :
    f x = some c ∧ Came f (fun z => left z && !z.sameKey (.int .i64 x)) (xs ++ [(x, c)]) := by
  have hfx : f x = some c := by
    cases hf : f x with
    | none => have h1 := hv.miss x hf; rw [has_true_of_atKey hat] at h1; cases h1
    | some v =>
      have h1 := (hv.hit x v hf).2 .nil
      rw [hat] at h1
      injection h1 with h1
      injection h1 with _ h1
      rw [h1]
  refine ⟨hfx, ?_, fun k v => ?_⟩
  · rw [List.map_append, List.map_cons, List.map_nil, List.nodup_append]
    refine ⟨h.1, by simp, fun a ha b hb => ?_⟩
    simp only [List.mem_singleton] at hb
    subst hb
    intro e
    subst e
    obtain ⟨⟨k, v⟩, hp, rfl⟩ := List.mem_map.1 ha
    have := ((h.2 k v).1 hp).2
    rw [hl] at this
    cases this
  · rw [List.mem_append, h.2 k v]
    by_cases e : k = x
    · subst e
      have hs : (Lit.int .i64 k).sameKey (.int .i64 k) = true := WideAt.sameKey_self (key_lit hw)
      simp only [hs, Bool.not_true, Bool.and_false, and_true, List.mem_singleton, Prod.mk.injEq, true_and]
      rw [hfx]
      constructor
      · rintro (e | e)
        · rw [hl] at e; cases e.2
        · rw [e]
      · intro e; injection e with e; exact .inr e.symm
    · have hs : (Lit.int .i64 k).sameKey (.int .i64 x) = false := sameKey_ne (lit_ne e)
      simp only [hs, Bool.not_false, Bool.and_true, List.mem_singleton, Prod.mk.injEq]
      constructor
      · rintro (e' | e')
        · exact e'
        · exact absurd e'.1 e
      · exact .inl
theorem Came.all {f : FMap} {left : Lit → Bool} {xs : List (Int × Int)} (h : Came f left xs) (hl : ∀ kl, left kl = false) : SeqOf xs f := ⟨h.1, fun k v => by rw [h.2 k v, hl]; simp⟩
theorem Came.some {f : FMap} {left : Lit → Bool} {xs : List (Int × Int)} (h : Came f left xs) : PartOf xs f := ⟨h.1, fun p hp => ((h.2 p.1 p.2).1 hp).1⟩

set_option maxRecDepth 100000 in
set_option maxHeartbeats 1000000 in
/-- The closure of maps.All, whatever the rounds do that keep the map. -/
theorem mall1_in (n : Nat) (hn : 1 ≤ n) (l Bm b nn : Nat) (f : FMap) (J Jx : List Pr → World → Prop)
    (hY : ∀ pre (x : Pr) W, J pre W → pre.length < nn → YieldAt Fence.wide (n - 1) Try.prog l #[Value.int .i64 x.1.1, Value.int .i64 x.1.2] W fun e W' =>
      (e = .returned (.bool true) ∧ J (pre ++ [x]) W' ∧ KeepsMap b W W') ∨ (e = .returned (.bool false) ∧ Jx (pre ++ [x]) W'))
    (W : World) (hJ : AbidesFrom W.heap.size J) (hm : W.cell? ⟨Bm, 0, none⟩ = some (.map (some b))) (hF : MapF W b nn f) (h0 : J [] W) :
    CallsIn Fence.wide n Try.prog 64 #[.func (.yield l) #[] #[], .pointer (some ⟨Bm, 0, none⟩)] W fun e W' => (∃ v, e = .returned v) ∧
      ((∃ ys : List Pr, (∃ xs, SeqOf xs f ∧ ys.map (fun x : Pr => x.1) = xs.map id) ∧ J ys W') ∨ (∃ pre : List Pr, (∃ xs, PartOf xs f ∧ pre.map (fun x : Pr => x.1) = xs.map id) ∧ Jx pre W')) := by
  obtain ⟨D, hown, hv⟩ := hF
  refine callsIn_of_wp Try.func64 rfl trivial ?_ rfl
  simp only [Try.ntmps64, List.size_toArray, List.length_cons, List.length_nil, Nat.reduceAdd, Nat.reduceSub, Array.replicate_succ, Array.replicate_zero, List.push_toArray, List.append_toArray, List.nil_append, List.cons_append]
  gi_wp2_with (gi_at_range; refine wpListIn_range_own _ rfl _ 57 rfl 3 3 kInt Try.underlying57 _ b nn _ rfl hown ?_; intro w0 hrg0 hg0 hs0)
  go_frame
  gi_loopw [4] (fun _ wr => ∃ (left : Lit → Bool) (cnt : Nat) (ss : List Pr) (xs : List (Int × Int)), wr.ranges Try.prog 3 (plainElem Try.prog 3) b W.heap.size nn D left cnt ∧ ss.length + cnt ≤ Maps.size D ∧ Came f left xs ∧ ss.map (fun x : Pr => x.1) = xs.map id ∧ J ss wr)
    (fun _ wr => wr.rangeLeft b W.heap.size)
  case atStart => exact ⟨_, _, [], [], hrg0, by simp, Came.start hv, rfl, hJ [] W w0 none h0 hg0 (fun r e => by cases e)⟩
  case round =>
    obtain ⟨left, cnt, ss, xs, hrg, hcs, hC, hsx, hJs⟩ := hrel
    have hle := hown.size_le
    have Hsx := Lib.hid hsx
    clear hsx
    gi_wp2_with (gi_at_next; refine wpListIn_next_ranges_ii _ rfl _ rfl 3 3 .i64 .i64 kInt Try.underlying3 Try.underlying3 b W.heap.size nn _ _ _ rfl hrg ?_ ?_)
    · intro hc0 hl0
      gi_wp2
      go_end0
      exact ⟨⟨_, rfl⟩, .inl ⟨ss, ⟨xs, hC.all hl0, Hsx.out⟩, hJs⟩⟩
    · intro x c w2 cnt2 hwx hwc hlk hat hrg2 hlt hg2 hs2 hen
      obtain ⟨hfx, hC2⟩ := hC.step hv hwx hlk hat
      have hJ2 : J ss w2 := hJ ss wr w2 (some W.heap.size) hJs hg2 (fun r e => by cases e; exact ⟨Nat.le_refl _, hrg.iter_walk⟩)
      obtain ⟨fn, tmps, assign, body, hy, hR⟩ := hY ss ⟨(x, c), hwx, hwc⟩ w2 hJ2 (by omega)
      dsimp only at hy
      have HC2 := Lib.hid hC2
      clear hs2 hC2 hfx
      gi_wp2
      refine hR.mono ?_
      rintro e W3 (⟨rfl, hJ3, hk3⟩ | ⟨rfl, hJx3⟩)
      · gi_wp2
        have hrg3 := ranges_keeps hrg2 hk3
        go_roundw
        case rel => exact ⟨_, cnt2, _, xs ++ [(x, c)], hrg3, by simp; omega, HC2.out, by rw [List.map_append, List.map_append, Hsx.out]; rfl, hJ3⟩
        case measure => rw [hrg3.left_eq, hrg.left_eq]; exact hlt
      · gi_wp2
        refine bodyPost_ret (results_none rfl _ _ _) rfl ?_
        exact ⟨⟨_, rfl⟩, .inr ⟨_, ⟨xs ++ [(x, c)], HC2.out.some, by rw [List.map_append, List.map_append, Hsx.out]; rfl⟩, hJx3⟩⟩
/-- maps.All: the map is boxed; the function value has the box. -/
theorem mall_calls (b : Option Nat) (w : World) :
    Calls Try.prog 43 #[.map b] w fun e w' => e = .returned (.func (.func 64) #[] #[.pointer (some ⟨w.heap.size, 0, none⟩)]) ∧ w.alloc (.cells #[.map b] 57) = w' := by
  go_enter Try.func43, Try.ntmps43
  go_wp2
  go_ret
  exact ⟨rfl, rfl⟩
/-- What maps.All hands back goes over all, or a part. -/
theorem mall_stops (n : Nat) (hn : 1 ≤ n) (Bm b nn : Nat) (f : FMap) (w : World) (hBm : Bm < w.heap.size) (hc : w.cell? ⟨Bm, 0, none⟩ = some (.map (some b))) (hF : MapF w b nn f) :
    SeqStopsK Fence.wide n Try.prog 64 #[.pointer (some ⟨Bm, 0, none⟩)] (fun x : Pr => #[Value.int .i64 x.1.1, Value.int .i64 x.1.2]) (KeepsMap b) (fun ys => ∃ xs, SeqOf xs f ∧ ys.map (fun x : Pr => x.1) = xs.map id) (fun pre => ∃ xs, PartOf xs f ∧ pre.map (fun x : Pr => x.1) = xs.map id) nn w := fun l J Jx W hW hJ _ hY h0 =>
  mall1_in n hn l Bm b nn f J Jx hY W hJ ((hW.cell (p := ⟨Bm, 0, none⟩) hBm).trans hc) (hF.below hW hF.lt) h0

set_option maxRecDepth 100000 in
set_option maxHeartbeats 1000000 in
/-- The closure of maps.Keys, whatever the rounds do that keep the map. -/
theorem mkeys1_in (n : Nat) (hn : 1 ≤ n) (l Bm b nn : Nat) (f : FMap) (J Jx : List Int → World → Prop)
    (hY : ∀ pre (x : Int) W, J pre W → pre.length < nn → YieldAt Fence.wide (n - 1) Try.prog l #[Value.int .i64 x] W fun e W' =>
      (e = .returned (.bool true) ∧ J (pre ++ [x]) W' ∧ KeepsMap b W W') ∨ (e = .returned (.bool false) ∧ Jx (pre ++ [x]) W'))
    (W : World) (hJ : AbidesFrom W.heap.size J) (hm : W.cell? ⟨Bm, 0, none⟩ = some (.map (some b))) (hF : MapF W b nn f) (h0 : J [] W) :
    CallsIn Fence.wide n Try.prog 61 #[.func (.yield l) #[] #[], .pointer (some ⟨Bm, 0, none⟩)] W fun e W' => (∃ v, e = .returned v) ∧
      ((∃ ys : List Int, (∃ xs, SeqOf xs f ∧ ys.map id = xs.map (fun p : Int × Int => p.1)) ∧ J ys W') ∨ (∃ pre : List Int, (∃ xs, PartOf xs f ∧ pre.map id = xs.map (fun p : Int × Int => p.1)) ∧ Jx pre W')) := by
  obtain ⟨D, hown, hv⟩ := hF
  refine callsIn_of_wp Try.func61 rfl trivial ?_ rfl
  simp only [Try.ntmps61, List.size_toArray, List.length_cons, List.length_nil, Nat.reduceAdd, Nat.reduceSub, Array.replicate_succ, Array.replicate_zero, List.push_toArray, List.append_toArray, List.nil_append, List.cons_append]
  gi_wp2_with (gi_at_range; refine wpListIn_range_own _ rfl _ 57 rfl 3 3 kInt Try.underlying57 _ b nn _ rfl hown ?_; intro w0 hrg0 hg0 hs0)
  go_frame
  gi_loopw [3] (fun _ wr => ∃ (left : Lit → Bool) (cnt : Nat) (ss : List Int) (xs : List (Int × Int)), wr.ranges Try.prog 3 (plainElem Try.prog 3) b W.heap.size nn D left cnt ∧ ss.length + cnt ≤ Maps.size D ∧ Came f left xs ∧ ss.map id = xs.map (fun p : Int × Int => p.1) ∧ J ss wr)
    (fun _ wr => wr.rangeLeft b W.heap.size)
  case atStart => exact ⟨_, _, [], [], hrg0, by simp, Came.start hv, rfl, hJ [] W w0 none h0 hg0 (fun r e => by cases e)⟩
  case round =>
    obtain ⟨left, cnt, ss, xs, hrg, hcs, hC, hsx, hJs⟩ := hrel
    have hle := hown.size_le
    have Hsx := Lib.hid hsx
    clear hsx
    gi_wp2_with (gi_at_next; refine wpListIn_next_ranges_ii _ rfl _ rfl 3 3 .i64 .i64 kInt Try.underlying3 Try.underlying3 b W.heap.size nn _ _ _ rfl hrg ?_ ?_)
    · intro hc0 hl0
      gi_wp2
      go_end0
      exact ⟨⟨_, rfl⟩, .inl ⟨ss, ⟨xs, hC.all hl0, Hsx.out⟩, hJs⟩⟩
    · intro x c w2 cnt2 hwx hwc hlk hat hrg2 hlt hg2 hs2 hen
      obtain ⟨hfx, hC2⟩ := hC.step hv hwx hlk hat
      have hJ2 : J ss w2 := hJ ss wr w2 (some W.heap.size) hJs hg2 (fun r e => by cases e; exact ⟨Nat.le_refl _, hrg.iter_walk⟩)
      obtain ⟨fn, tmps, assign, body, hy, hR⟩ := hY ss x w2 hJ2 (by omega)
      have HC2 := Lib.hid hC2
      clear hs2 hC2 hfx
      gi_wp2
      refine hR.mono ?_
      rintro e W3 (⟨rfl, hJ3, hk3⟩ | ⟨rfl, hJx3⟩)
      · gi_wp2
        have hrg3 := ranges_keeps hrg2 hk3
        go_roundw
        case rel => exact ⟨_, cnt2, _, xs ++ [(x, c)], hrg3, by simp; omega, HC2.out, by rw [List.map_append, List.map_append, Hsx.out]; rfl, hJ3⟩
        case measure => rw [hrg3.left_eq, hrg.left_eq]; exact hlt
      · gi_wp2
        refine bodyPost_ret (results_none rfl _ _ _) rfl ?_
        exact ⟨⟨_, rfl⟩, .inr ⟨_, ⟨xs ++ [(x, c)], HC2.out.some, by rw [List.map_append, List.map_append, Hsx.out]; rfl⟩, hJx3⟩⟩
/-- maps.Keys: the map is boxed; the function value has the box. -/
theorem mkeys_calls (b : Option Nat) (w : World) :
    Calls Try.prog 37 #[.map b] w fun e w' => e = .returned (.func (.func 61) #[] #[.pointer (some ⟨w.heap.size, 0, none⟩)]) ∧ w.alloc (.cells #[.map b] 57) = w' := by
  go_enter Try.func37, Try.ntmps37
  go_wp2
  go_ret
  exact ⟨rfl, rfl⟩
/-- What maps.Keys hands back goes over all, or a part. -/
theorem mkeys_stops (n : Nat) (hn : 1 ≤ n) (Bm b nn : Nat) (f : FMap) (w : World) (hBm : Bm < w.heap.size) (hc : w.cell? ⟨Bm, 0, none⟩ = some (.map (some b))) (hF : MapF w b nn f) :
    SeqStopsK Fence.wide n Try.prog 61 #[.pointer (some ⟨Bm, 0, none⟩)] (fun x : Int => #[Value.int .i64 x]) (KeepsMap b) (fun ys => ∃ xs, SeqOf xs f ∧ ys.map id = xs.map (fun p : Int × Int => p.1)) (fun pre => ∃ xs, PartOf xs f ∧ pre.map id = xs.map (fun p : Int × Int => p.1)) nn w := fun l J Jx W hW hJ _ hY h0 =>
  mkeys1_in n hn l Bm b nn f J Jx hY W hJ ((hW.cell (p := ⟨Bm, 0, none⟩) hBm).trans hc) (hF.below hW hF.lt) h0

set_option maxRecDepth 100000 in
set_option maxHeartbeats 1000000 in
/-- The closure of maps.Values, whatever the rounds do that keep the map. -/
theorem mvals1_in (n : Nat) (hn : 1 ≤ n) (l Bm b nn : Nat) (f : FMap) (J Jx : List Int → World → Prop)
    (hY : ∀ pre (x : Int) W, J pre W → pre.length < nn → YieldAt Fence.wide (n - 1) Try.prog l #[Value.int .i64 x] W fun e W' =>
      (e = .returned (.bool true) ∧ J (pre ++ [x]) W' ∧ KeepsMap b W W') ∨ (e = .returned (.bool false) ∧ Jx (pre ++ [x]) W'))
    (W : World) (hJ : AbidesFrom W.heap.size J) (hm : W.cell? ⟨Bm, 0, none⟩ = some (.map (some b))) (hF : MapF W b nn f) (h0 : J [] W) :
    CallsIn Fence.wide n Try.prog 67 #[.func (.yield l) #[] #[], .pointer (some ⟨Bm, 0, none⟩)] W fun e W' => (∃ v, e = .returned v) ∧
      ((∃ ys : List Int, (∃ xs, SeqOf xs f ∧ ys.map id = xs.map (fun p : Int × Int => p.2)) ∧ J ys W') ∨ (∃ pre : List Int, (∃ xs, PartOf xs f ∧ pre.map id = xs.map (fun p : Int × Int => p.2)) ∧ Jx pre W')) := by
  obtain ⟨D, hown, hv⟩ := hF
  refine callsIn_of_wp Try.func67 rfl trivial ?_ rfl
  simp only [Try.ntmps67, List.size_toArray, List.length_cons, List.length_nil, Nat.reduceAdd, Nat.reduceSub, Array.replicate_succ, Array.replicate_zero, List.push_toArray, List.append_toArray, List.nil_append, List.cons_append]
  gi_wp2_with (gi_at_range; refine wpListIn_range_own _ rfl _ 57 rfl 3 3 kInt Try.underlying57 _ b nn _ rfl hown ?_; intro w0 hrg0 hg0 hs0)
  go_frame
  gi_loopw [4] (fun _ wr => ∃ (left : Lit → Bool) (cnt : Nat) (ss : List Int) (xs : List (Int × Int)), wr.ranges Try.prog 3 (plainElem Try.prog 3) b W.heap.size nn D left cnt ∧ ss.length + cnt ≤ Maps.size D ∧ Came f left xs ∧ ss.map id = xs.map (fun p : Int × Int => p.2) ∧ J ss wr)
    (fun _ wr => wr.rangeLeft b W.heap.size)
  case atStart => exact ⟨_, _, [], [], hrg0, by simp, Came.start hv, rfl, hJ [] W w0 none h0 hg0 (fun r e => by cases e)⟩
  case round =>
    obtain ⟨left, cnt, ss, xs, hrg, hcs, hC, hsx, hJs⟩ := hrel
    have hle := hown.size_le
    have Hsx := Lib.hid hsx
    clear hsx
    gi_wp2_with (gi_at_next; refine wpListIn_next_ranges_ii _ rfl _ rfl 3 3 .i64 .i64 kInt Try.underlying3 Try.underlying3 b W.heap.size nn _ _ _ rfl hrg ?_ ?_)
    · intro hc0 hl0
      gi_wp2
      go_end0
      exact ⟨⟨_, rfl⟩, .inl ⟨ss, ⟨xs, hC.all hl0, Hsx.out⟩, hJs⟩⟩
    · intro x c w2 cnt2 hwx hwc hlk hat hrg2 hlt hg2 hs2 hen
      obtain ⟨hfx, hC2⟩ := hC.step hv hwx hlk hat
      have hJ2 : J ss w2 := hJ ss wr w2 (some W.heap.size) hJs hg2 (fun r e => by cases e; exact ⟨Nat.le_refl _, hrg.iter_walk⟩)
      obtain ⟨fn, tmps, assign, body, hy, hR⟩ := hY ss c w2 hJ2 (by omega)
      have HC2 := Lib.hid hC2
      clear hs2 hC2 hfx
      gi_wp2
      refine hR.mono ?_
      rintro e W3 (⟨rfl, hJ3, hk3⟩ | ⟨rfl, hJx3⟩)
      · gi_wp2
        have hrg3 := ranges_keeps hrg2 hk3
        go_roundw
        case rel => exact ⟨_, cnt2, _, xs ++ [(x, c)], hrg3, by simp; omega, HC2.out, by rw [List.map_append, List.map_append, Hsx.out]; rfl, hJ3⟩
        case measure => rw [hrg3.left_eq, hrg.left_eq]; exact hlt
      · gi_wp2
        refine bodyPost_ret (results_none rfl _ _ _) rfl ?_
        exact ⟨⟨_, rfl⟩, .inr ⟨_, ⟨xs ++ [(x, c)], HC2.out.some, by rw [List.map_append, List.map_append, Hsx.out]; rfl⟩, hJx3⟩⟩
/-- maps.Values: the map is boxed; the function value has the box. -/
theorem mvals_calls (b : Option Nat) (w : World) :
    Calls Try.prog 47 #[.map b] w fun e w' => e = .returned (.func (.func 67) #[] #[.pointer (some ⟨w.heap.size, 0, none⟩)]) ∧ w.alloc (.cells #[.map b] 57) = w' := by
  go_enter Try.func47, Try.ntmps47
  go_wp2
  go_ret
  exact ⟨rfl, rfl⟩
/-- What maps.Values hands back goes over all, or a part. -/
theorem mvals_stops (n : Nat) (hn : 1 ≤ n) (Bm b nn : Nat) (f : FMap) (w : World) (hBm : Bm < w.heap.size) (hc : w.cell? ⟨Bm, 0, none⟩ = some (.map (some b))) (hF : MapF w b nn f) :
    SeqStopsK Fence.wide n Try.prog 67 #[.pointer (some ⟨Bm, 0, none⟩)] (fun x : Int => #[Value.int .i64 x]) (KeepsMap b) (fun ys => ∃ xs, SeqOf xs f ∧ ys.map id = xs.map (fun p : Int × Int => p.2)) (fun pre => ∃ xs, PartOf xs f ∧ pre.map id = xs.map (fun p : Int × Int => p.2)) nn w := fun l J Jx W hW hJ _ hY h0 =>
  mvals1_in n hn l Bm b nn f J Jx hY W hJ ((hW.cell (p := ⟨Bm, 0, none⟩) hBm).trans hc) (hF.below hW hF.lt) h0

end Go.Proofs.Ytfagmnjhpipndaa
