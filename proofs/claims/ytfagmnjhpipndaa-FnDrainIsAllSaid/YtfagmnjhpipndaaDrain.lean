/-
  maps.Keys while the keys that are met are deleted: a range over a function whose rounds say which element they met; the contract of the iterator. No statement is proved here.
-/
import Derived.Test.YtfagmnjhpipndaaMapWalked
namespace Go.Proofs.Ytfagmnjhpipndaa
open Go.RowKit Go.Shelf Go.Maps
attribute [local go_sem] Oper.semAt_some

/-- f without some keys. -/
def dels (f : FMap) (ks : List Int) : FMap := fun k => if k ∈ ks then none else f k
theorem dels_nil (f : FMap) : dels f [] = f := by funext k; simp [dels]
theorem dels_some {f : FMap} {ks : List Int} {k v : Int} : dels f ks k = some v ↔ k ∉ ks ∧ f k = some v := by
  unfold dels
  split <;> simp_all
theorem dels_snoc_self (f : FMap) (ks : List Int) (x : Int) : dels f (ks ++ [x]) x = none := by simp [dels]
theorem dels_snoc_other (f : FMap) (ks : List Int) {x k : Int} (h : k ≠ x) : dels f (ks ++ [x]) k = dels f ks k := by simp [dels, h]

theorem MapView.del {D : DataW Unit} {f : FMap} {ks : List Int} (h : MapView D (dels f ks)) (x : Int) : MapView (D.del (.int .i64 x)) (dels f (ks ++ [x])) := by
  refine ⟨fun k v e => ?_, fun k v e => ?_, fun k e => ?_⟩
  · by_cases hk : k = x
    · subst hk; rw [dels_snoc_self] at e; cases e
    · rw [dels_snoc_other _ _ hk] at e; exact h.wf k v e
  · by_cases hk : k = x
    · subst hk; rw [dels_snoc_self] at e; cases e
    · rw [dels_snoc_other _ _ hk] at e
      obtain ⟨h1, h2⟩ := h.hit k v e
      exact ⟨(has_del_other (lit_ne hk)).trans h1, fun z => (atKey_del_other (lit_ne hk) z).trans (h2 z)⟩
  · by_cases hk : k = x
    · subst hk; exact has_del_same
    · rw [dels_snoc_other _ _ hk] at e
      exact (has_del_other (lit_ne hk)).trans (h.miss k e)

/-- A key that fits. -/
abbrev Wi : Type := { x : Int // (Lit.int .i64 x).wf = true }
def kss (ss : List Wi) : List Int := ss.map (fun x => x.1)
theorem kss_snoc (ss : List Wi) (x : Wi) : kss (ss ++ [x]) = kss ss ++ [x.1] := by simp [kss]
theorem kss_length (ss : List Wi) : (kss ss).length = ss.length := by simp [kss]

/-- As far as a range over a map has come whose keys are deleted as they are met. -/
def Draining (f : FMap) (D : DataW Unit) (left : Lit → Bool) (ss : List Int) : Prop :=
  ∃ xs : List (Int × Int), ss = xs.map (·.1) ∧ PartOf xs f ∧ MapView D (dels f ss) ∧ ∀ k v, dels f ss k = some v → left (.int .i64 k) = true
theorem Draining.start {D : DataW Unit} {f : FMap} (h : MapView D f) : Draining f D (has D) [] :=
  ⟨[], rfl, ⟨List.nodup_nil, fun p hp => (by cases hp)⟩, by rw [dels_nil]; exact h, fun k v e => by rw [dels_nil] at e; exact (h.hit k v e).1⟩
theorem Draining.step {D : DataW Unit} {f : FMap} {left : Lit → Bool} {ss : List Int} (h : Draining f D left ss) {x c : Int} (hat : ∀ z, D.atKey (.int .i64 x) z = .lit (.int .i64 c)) :
    Draining f (D.del (.int .i64 x)) (fun z => (fun z => left z && !z.sameKey (.int .i64 x)) z && !z.sameKey (.int .i64 x)) (ss ++ [x]) := by
  obtain ⟨xs, rfl, hP, hv, hl⟩ := h
  have hfx : dels f (xs.map (·.1)) x = some c := by
    cases hf : dels f (xs.map (·.1)) x with
    | none => have h1 := hv.miss x hf; rw [has_true_of_atKey hat] at h1; cases h1
    | some v =>
      have h1 := (hv.hit x v hf).2 .nil
      rw [hat] at h1
      injection h1 with h1
      injection h1 with _ h1
      rw [h1]
  obtain ⟨hnx, hfx'⟩ := dels_some.1 hfx
  refine ⟨xs ++ [(x, c)], by simp, ⟨?_, fun p hp => ?_⟩, hv.del x, fun k v e => ?_⟩
  · rw [List.map_append, List.map_cons, List.map_nil, List.nodup_append]
    refine ⟨hP.1, by simp, fun a ha b hb => ?_⟩
    simp only [List.mem_singleton] at hb
    subst hb
    intro e
    subst e
    exact hnx ha
  · rcases List.mem_append.1 hp with h1 | h1
    · exact hP.2 p h1
    · simp only [List.mem_singleton] at h1
      subst h1
      exact hfx'
  · by_cases hk : k = x
    · subst hk; rw [dels_snoc_self] at e; cases e
    · rw [dels_snoc_other _ _ hk] at e
      have hs : (Lit.int .i64 k).sameKey (.int .i64 x) = false := sameKey_ne (lit_ne hk)
      simp only [hl k v e, hs, Bool.not_false, Bool.and_self]
theorem Draining.all {D : DataW Unit} {f : FMap} {left : Lit → Bool} {ss : List Int} (h : Draining f D left ss) (hl : ∀ kl, left kl = false) : ∃ xs, SeqOf xs f ∧ ss = xs.map (·.1) := by
  obtain ⟨xs, rfl, hP, _, hx⟩ := h
  refine ⟨xs, ⟨hP.1, fun k v => ⟨fun hm => hP.2 _ hm, fun hf => ?_⟩⟩, rfl⟩
  by_cases hk : k ∈ xs.map (·.1)
  · obtain ⟨⟨k', v'⟩, hp, rfl⟩ := List.mem_map.1 hk
    have := hP.2 _ hp
    dsimp only at this hf
    rw [hf] at this
    injection this with this
    rw [this]
    exact hp
  · have := hx k v (dels_some.2 ⟨hk, hf⟩)
    rw [hl] at this
    cases this

/-- A round at x has deleted x out of the map b, and kept what else a range over it reads. -/
def Drained (b : Nat) (x : Int) (W W' : World) : Prop :=
  ∃ (ty : TypeId) (W1 W2 : World), KeepsMap b W W1 ∧ (Builtin.delete_ #[57, 3] ty #[.map (some b), .int .i64 x]).run Try.prog W1 = .ok (.tuple #[]) W2 ∧ KeepsMap b W2 W'
theorem Drained.ahead {b : Nat} {x : Int} {W W1 W' : World} (h : KeepsMap b W W1) (k : Drained b x W1 W') : Drained b x W W' := by
  obtain ⟨ty, A, B, h1, h2, h3⟩ := k
  exact ⟨ty, A, B, keepsMap_t h h1, h2, h3⟩
theorem Drained.behind {b : Nat} {x : Int} {W W1 W' : World} (k : Drained b x W W1) (h : KeepsMap b W1 W') : Drained b x W W' := by
  obtain ⟨ty, A, B, h1, h2, h3⟩ := k
  exact ⟨ty, A, B, h1, h2, keepsMap_t h3 h⟩
theorem ranges_drained {W W' : World} {b r nn cnt : Nat} {D : DataW Unit} {left : Lit → Bool} {x : Int} (h : W.ranges Try.prog 3 (plainElem Try.prog 3) b r nn D left cnt) (hd : Drained b x W W') (hw : (Lit.int .i64 x).wf = true) :
    ∃ cnt', W'.ranges Try.prog 3 (plainElem Try.prog 3) b r nn (D.del (.int .i64 x)) (fun z => left z && !z.sameKey (.int .i64 x)) cnt' ∧ cnt' ≤ cnt := by
  obtain ⟨ty, W1, W2, h1, hrun, h2⟩ := hd
  obtain ⟨w', cnt', hrun', hr', hle, _⟩ := (ranges_keeps h h1).drop kInt Try.underlying57 (keyOf_int_mk Try.underlying3 hw) ty
  rw [hrun] at hrun'
  injection hrun' with _ hrun'
  subst hrun'
  exact ⟨cnt', ranges_keeps hr' h2, hle⟩

/-- The contract of an iterator whose rounds all go on and say which element they met. -/
def SeqMeets {α : Type} (n : Nat) (g : Nat) (lb : Array Value) (encs : α → Array Value) (Kp : α → World → World → Prop) (S : List α → Prop) (N : Nat) (w : World) : Prop :=
  ∀ (l : Nat) (J : List α → World → Prop) (W : World), RowKit.Below w.heap.size w W → AbidesFrom W.heap.size J →
    (∀ pre x W1, J pre W1 → pre.length < N → YieldAt Fence.wide (n - 1) Try.prog l (encs x) W1 fun e W' => e = .returned (.bool true) ∧ J (pre ++ [x]) W' ∧ Kp x W1 W') →
    J [] W → CallsIn Fence.wide n Try.prog g (#[.func (.yield l) #[] #[]] ++ lb) W fun e W' => (∃ v, e = .returned v) ∧ ∃ xs, S xs ∧ J xs W'

/-- How a round is left: at its end. -/
def meetPost {α : Type} (B : Nat) (K : World → World → Prop) (I : List α → World → Prop) (xs : List α) (W : World) : Exit → Act → World → Prop
  | .normal, _, W' => KeepsFrom B W W' ∧ K W W' ∧ I xs W'
  | _, _, _ => False

section
variable {n : Nat} {α : Type} {g : Operand} {body : Code} {Q : Exit → Act → World → Prop} {a : Act} {w : World}

set_option maxHeartbeats 400000 in
/-- A range over such an iterator, with one loop variable that is no box, whose rounds all go on. -/
theorem rangeMeets {p d k : Nat} {ty : TypeId} {pos : String} (h1 : 1 ≤ n) {gf : Nat} {lb : Array Value} (hg : a.eval g = .func (.func gf) #[] lb) (eg : ∀ args w, (callFunc gf args).run Try.prog w = .ok (.enter gf args) w)
    {enc : α → Value} {Kp : α → World → World → Prop} {S : List α → Prop} {N : Nat} {w0 : World} (hseq : SeqMeets (n - 1) gf lb (fun x => #[enc x]) Kp S N w0)
    (hKl : ∀ (x : α) (W W' : World) (l : Nat) (o o' : Obj), w.heap.size ≤ l → W.heap[l]? = some o → o.isCells = false → o.isWalk = false → Kp x (W.putObj l o') W' → Kp x W W')
    (hKr : ∀ (x : α) (W W' : World) (l : Nat) (o o' : Obj), w.heap.size ≤ l → W'.heap[l]? = some o → o.isCells = false → o.isWalk = false → Kp x W W' → Kp x W (W'.putObj l o'))
    (hb0 : RowKit.Below w0.heap.size w0 w) (hp : p < a.tmps.size)
    (I : List α → World → Prop) (hI : OwnFrom w.heap.size I) (h0 : I [] w)
    (hbody : ∀ (l : Nat) (pre : List α) (x : α) (W : World), I pre W → pre.length < N → body.wpIn (Fence.wide.inRound l) (n - 1 - 1) Try.prog (meetPost w.heap.size (Kp x) I (pre ++ [x]) W) { tmps := (a.tmps.setIfInBounds p (enc x)).setIfInBounds d (enc x), defers := [] } W)
    (hdone : ∀ (D : Nat) (xs : List α) (W : World), w.heap.size ≤ D → S xs → I xs W → W.heap[D]? = some (.deferred (some [])) → Q .normal { a with defers := { target := .collected D, args := #[] } :: a.defers } W) :
    (Code.rangeFunc g #[p] (Code.region k #[{ dst := some d, op := Op.assign (Operand.tmp p), type := ty, pos := pos, after := #[], guard := none }] false) body).wpIn Fence.wide n Try.prog Q a w := by
  refine wpIn_rangeFunc fun fn hfn => ?_
  obtain ⟨rc, hrc⟩ : ∃ rc : LoopState → Loop, rc = fun st => { state := st, pending := none, fn, tmps := a.tmps, params := #[p], assign := Code.region k #[{ dst := some d, op := Op.assign (Operand.tmp p), type := ty, pos := pos, after := #[], guard := none }] false, body, defers := w.heap.size } := ⟨_, rfl⟩
  obtain ⟨W1, hW1⟩ : ∃ W1, (w.alloc (.deferred (some []))).alloc (.loop (rc .ready)) = W1 := ⟨_, rfl⟩
  have hs1 : W1.heap.size = w.heap.size + 2 := by rw [← hW1]; simp
  have hL1 : W1.heap[w.heap.size + 1]? = some (.loop (rc .ready)) := by
    have := World.alloc_heap_new (w.alloc (.deferred (some []))) (.loop (rc .ready))
    rwa [World.size_alloc, hW1] at this
  have hK1 : W1.heap[w.heap.size]? = some (.deferred (some [])) := by
    rw [← hW1]; exact (Below.heap_alloc _ _ _ (by simp)).trans (World.alloc_heap_new w _)
  refine ⟨w.heap.size + 1, [{ target := .collected w.heap.size, args := #[] }], W1, { target := .fn (.func gf) lb, args := #[.func (.yield (w.heap.size + 1)) #[] #[]] }, W1, gf,
    #[.func (.yield (w.heap.size + 1)) #[] #[]] ++ lb, W1, ?_, ?_, fun _ _ => trivial, ?_, fun _ => h1, ?_⟩
  · rw [← hW1, hrc]; exact run_enterLoop_outer _ _ _ _ _
  · simp only [resolve, hg]
    simp [go_sem]
  · simp [invoke, go_sem, eg]
  · have hout : ∀ {A B : World} {row : Option Nat}, A.grownBy B row → (∀ r, row = some r → W1.heap.size ≤ r ∧ ∃ o : Obj, A.heap[r]? = some o ∧ o.isWalk = true) → ∀ r, row = some r → w.heap.size ≤ r ∧ ∃ o : Obj, A.heap[r]? = some o ∧ o.isCells = false :=
      fun _ hr r e => by obtain ⟨hB, o, ho, hw⟩ := hr r e; exact ⟨by omega, o, ho, Obj.not_cells_of_walk hw⟩
    have hfar : ∀ {A B : World} {row : Option Nat} {j : Nat} {o : Obj}, A.grownBy B row → (∀ r, row = some r → W1.heap.size ≤ r ∧ ∃ o : Obj, A.heap[r]? = some o ∧ o.isWalk = true) → j < w.heap.size + 2 → A.heap[j]? = some o → B.heap[j]? = some o :=
      fun hgr hr hj ho => (hgr.block _ (Array.getElem?_eq_some_iff.1 ho).1 (fun e => by have := (hr _ e.symm).1; omega)).trans ho
    refine (hseq (w.heap.size + 1) (fun pre W => I pre W ∧ W.heap[w.heap.size + 1]? = some (.loop (rc .ready)) ∧ W.heap[w.heap.size]? = some (.deferred (some []))) W1
      (by rw [← hW1]; exact hb0.trans ((((RowKit.Below.refl _ w).alloc (Nat.le_refl _) _).alloc (by simp) _).mono hb0.size))
      (fun s A B row hs hgr hr => ⟨hI s A B row hs.1 hgr (hout hgr hr), hfar hgr hr (by omega) hs.2.1, hfar hgr hr (by omega) hs.2.2⟩)
      ?_ ⟨by rw [← hW1]; exact hI.alloc _ (hI.alloc _ h0), hL1, hK1⟩).mono ?_
    · rintro pre x W ⟨hi, hl, hk⟩ hlen
      have hlt : w.heap.size + 1 < W.heap.size := (Array.getElem?_eq_some_iff.1 hl).1
      have hy := run_yield (P := Try.prog) (args := #[enc x]) hl (by rw [hrc]; rfl)
      rw [hrc] at hy
      refine ⟨fn, _, _, body, hy, roundIn_of_wpIn hfn ?_⟩
      simp only [List.zip_toArray, List.zip_cons_cons, List.zip_nil_right, List.size_toArray, List.length_cons, List.length_nil]
      have e : (a.tmps.setIfInBounds p (enc x)).getD p undef = enc x := by simp [hp]
      gi_wp2
      refine ⟨_, run_beginRound hl (by rw [hrc]), wpIn_mono (hbody _ pre x _ (hI.putObj _ hi (by omega) hl rfl) hlen) ?_⟩
      rintro ex a3 W3 hpo
      cases ex with
      | normal =>
        obtain ⟨hk3, hkp3, hi3⟩ := hpo
        have hl3 := hk3.same _ _ (by omega) (World.putObj_heap_same hlt) rfl
        have hk4 := hk3.same _ _ (Nat.le_refl _) ((World.putObj_heap_other (by omega)).trans hk) rfl
        have hr := run_endRound (P := Try.prog) none hl3
        refine ⟨_, _, hr, rfl, ⟨hI.putObj _ hi3 (by omega) hl3 rfl, ?_, (World.putObj_heap_other (by omega)).trans hk4⟩, hKr _ _ _ _ _ _ (by omega) hl3 rfl rfl (hKl _ _ _ _ _ _ (by omega) hl rfl rfl hkp3)⟩
        rw [World.putObj_heap_same (Array.getElem?_eq_some_iff.1 hl3).1, hrc]
        simp
      | ret => exact hpo.elim
      | exit id => exact hpo.elim
      | goto t => exact hpo.elim
      | panic ch => exact hpo.elim
      | outgrown => exact hpo.elim
    · rintro e W2 ⟨⟨v, rfl⟩, xs, hS, hi, hl, hk⟩
      have := run_endLoop (P := Try.prog) hl (by rw [hrc]; simp)
      refine ⟨none, _, by rw [hrc] at this; exact this, hdone _ xs _ (Nat.le_refl _) hS (hI.putObj _ hi (by omega) hl rfl) ((World.putObj_heap_other (by omega)).trans hk)⟩
end

set_option maxRecDepth 100000 in
set_option maxHeartbeats 1000000 in
/-- The closure of maps.Keys, where each round deletes the key that it met. -/
theorem mkeysD_in (n : Nat) (hn : 1 ≤ n) (l Bm b nn : Nat) (f : FMap) (J : List Wi → World → Prop)
    (hY : ∀ pre (x : Wi) W, J pre W → pre.length < nn → YieldAt Fence.wide (n - 1) Try.prog l #[Value.int .i64 x.1] W fun e W' => e = .returned (.bool true) ∧ J (pre ++ [x]) W' ∧ Drained b x.1 W W')
    (W : World) (hJ : AbidesFrom W.heap.size J) (hm : W.cell? ⟨Bm, 0, none⟩ = some (.map (some b))) (hF : MapF W b nn f) (h0 : J [] W) :
    CallsIn Fence.wide n Try.prog 61 #[.func (.yield l) #[] #[], .pointer (some ⟨Bm, 0, none⟩)] W fun e W' => (∃ v, e = .returned v) ∧
      ∃ ys : List Wi, (∃ xs, SeqOf xs f ∧ kss ys = xs.map (fun p : Int × Int => p.1)) ∧ J ys W' := by
  obtain ⟨D, hown, hv⟩ := hF
  refine callsIn_of_wp Try.func61 rfl trivial ?_ rfl
  simp only [Try.ntmps61, List.size_toArray, List.length_cons, List.length_nil, Nat.reduceAdd, Nat.reduceSub, Array.replicate_succ, Array.replicate_zero, List.push_toArray, List.append_toArray, List.nil_append, List.cons_append]
  gi_wp2_with (gi_at_range; refine wpListIn_range_own _ rfl _ 57 rfl 3 3 kInt Try.underlying57 _ b nn _ rfl hown ?_; intro w0 hrg0 hg0 hs0)
  go_frame
  have hle := hown.size_le
  gi_loopw [3] (fun _ wr => ∃ (E : DataW Unit) (left : Lit → Bool) (cnt : Nat) (ss : List Wi), wr.ranges Try.prog 3 (plainElem Try.prog 3) b W.heap.size nn E left cnt ∧ ss.length + cnt ≤ Maps.size D ∧ Draining f E left (kss ss) ∧ J ss wr)
    (fun _ wr => wr.rangeLeft b W.heap.size)
  case atStart => exact ⟨_, _, _, [], hrg0, by simp, Draining.start hv, hJ [] W w0 none h0 hg0 (fun r e => by cases e)⟩
  case round =>
    obtain ⟨E, left, cnt, ss, hrg, hcs, hC, hJs⟩ := hrel
    gi_wp2_with (gi_at_next; refine wpListIn_next_ranges_ii _ rfl _ rfl 3 3 .i64 .i64 kInt Try.underlying3 Try.underlying3 b W.heap.size nn _ _ _ rfl hrg ?_ ?_)
    · intro hc0 hl0
      gi_wp2
      go_end0
      exact ⟨⟨_, rfl⟩, ss, hC.all hl0, hJs⟩
    · intro x c w2 cnt2 hwx hwc hlk hat hrg2 hlt hg2 hs2 hen
      have hC2 := hC.step hat
      have hJ2 : J ss w2 := hJ ss wr w2 (some W.heap.size) hJs hg2 (fun r e => by cases e; exact ⟨Nat.le_refl _, hrg.iter_walk⟩)
      obtain ⟨fn, tmps, assign, body, hy, hR⟩ := hY ss ⟨x, hwx⟩ w2 hJ2 (by omega)
      dsimp only at hy
      have HC2 := Lib.hid hC2
      clear hs2 hC2
      gi_wp2
      refine hR.mono ?_
      rintro e W3 ⟨rfl, hJ3, hk3⟩
      obtain ⟨cnt3, hrg3, hc3⟩ := ranges_drained hrg2 hk3 hwx
      gi_wp2
      go_roundw
      case rel => exact ⟨_, _, cnt3, _, hrg3, by simp; omega, by rw [kss_snoc]; exact HC2.out, hJ3⟩
      case measure => rw [hrg3.left_eq, hrg.left_eq]; omega
/-- What maps.Keys hands back meets all keys, if each is deleted as it is met. -/
theorem mkeys_meets (n : Nat) (hn : 1 ≤ n) (Bm b nn : Nat) (f : FMap) (w : World) (hBm : Bm < w.heap.size) (hc : w.cell? ⟨Bm, 0, none⟩ = some (.map (some b))) (hF : MapF w b nn f) :
    SeqMeets n 61 #[.pointer (some ⟨Bm, 0, none⟩)] (fun x : Wi => #[Value.int .i64 x.1]) (fun x => Drained b x.1) (fun ys => ∃ xs, SeqOf xs f ∧ kss ys = xs.map (fun p : Int × Int => p.1)) nn w := fun l J W hW hJ hY h0 =>
  mkeysD_in n hn l Bm b nn f J hY W hJ ((hW.cell (p := ⟨Bm, 0, none⟩) hBm).trans hc) (hF.below hW hF.lt) h0

/-- A map that shows no keys has none. -/
theorem size_none {w : World} {b nn : Nat} {D : DataW Unit} {g : FMap} (hown : w.ownsMap Try.prog 3 (plainElem Try.prog 3) b nn D) (hv : MapView D g) (hg : ∀ k, g k = none) : Maps.size D = 0 := by
  obtain ⟨w', _, hr, _⟩ := hown.range kInt Try.underlying57
  obtain ⟨es, clock, since, seen, c0, hb, F, hs, hD, hr', hold, hc, hl, _⟩ := hr
  rw [← hc]
  have : leftOf es seen = #[] := by
    unfold leftOf
    rw [Array.filter_eq_empty_iff]
    intro x hx
    obtain ⟨z, hz⟩ := F.reads x (by simpa using hx)
    obtain ⟨k, _, hk, _⟩ := keyOf_int_inv Try.underlying3 (WideElems.rd_key hz)
    have h1 := hl x (by simpa using hx)
    rw [WideElems.rg_of hz, hk, hv.miss k (hg k)] at h1
    rw [← h1]
    simp
  rw [this]
  rfl

/-- 'delete', whatever it leaves. -/
theorem wpListIn_delete_at {F : Fence} {nF : Nat} {P : Program} {ops : Array Oper} {rest : List Oper} {o : Oper} {a : Act} {Q : Exit → Act → World → Prop} {w w' : World} (hg : o.guard = none) (m x : Operand) (t k : TypeId) (hop : o.op = Op.call { callee := Callee.builtin Builtin.delete, args := #[m, x], argTypes := #[t, k] })
    {mv xv : Value} (hm : a.eval m = mv) (hx : a.eval x = xv) (hrun : (Builtin.delete_ #[t, k] o.type #[mv, xv]).run P w = .ok (.tuple #[]) w') (hK : wpListIn F nF P ops Q rest (a.put o.dst (.tuple #[])) w') : wpListIn F nF P ops Q (o :: rest) a w := by
  refine wpListIn_plain hg fun K' hK' => ?_
  unfold Oper.wpIn
  refine ⟨by simp [Oper.about, hop, resolve, Target.leads, Sem.run_pure], ?_⟩
  rw [Oper.semAt_plain F _ _ (by rw [hop]; intro c hc'; cases hc')]
  simp [execOp, hop, resolve, invoke, builtin, hm, hx, hrun, Result.andThen]
  exact hK' _ _ hK

end Go.Proofs.Ytfagmnjhpipndaa
