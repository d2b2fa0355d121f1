/-
  The contract of impl.WalkChunk: copies of the first parts, and their capacities; of a size below 1 it panicked. No statement is proved here. (Printed by wip/mkwalkchunk.py out of wip/tpl/WalkChunk.txt.)
-/
import Derived.Test.YtmfmpfcgllpflaaHeld
import Derived.Test.YtmfmpfcgllpflaaWalkValues
import Derived.RegionIn
import Derived.BigRegionIn
import Derived.RecoverIn
namespace Go.Proofs.Ytmfmpfcgllpflaa
open Go.RowKit Go.Shelf
attribute [local go_sem] Oper.semAt_some

theorem sees_one (w : World) (x : Value) (t : TypeId) : Sees (w.alloc (.cells #[x] t)) (w.alloc (.cells #[x] t)).heap.size 1 (.slice (some ⟨w.heap.size, 0, none⟩) 1 1) 1 [x] :=
  Sees.own (World.ownsRow_lit (base := 0) w #[x] 1 (Nat.zero_le _) (by decide) (by simp))

/-- The box of the parts, and the row in it. -/
structure InBox (X : World) (base B : Nat) (v : Value) (ps : List Cp) : Prop where
  box : Boxed X B 22 v
  lt : B < base
  row : X.ownsRow base 23 1 v ps.length (ps.map valP)

theorem copied {X w1 : World} {base B : Nat} {v v1 : Value} {ps : List Cp} {l : List Int} {e : TypeId} (hX : InBox X base B v ps) (hbX : base ≤ X.heap.size) (hl : 0 < l.length)
    (hr1 : w1.ownsRow base 3 1 v1 (0 + l.length) ([] ++ l.map (Value.int .i64))) (hg1 : (X.alloc (.cells #[] e)).grownBy w1 (some X.heap.size)) (hn1 : v1.ownBlock = some X.heap.size ∨ v1.ownBlock = some (X.alloc (.cells #[] e)).heap.size) :
    ∃ g k, v1 = .slice (some ⟨g, 0, none⟩) l.length k ∧ w1.ownsRow base 23 1 v ps.length (ps.map valP) ∧ w1.cell? ⟨B, 0, none⟩ = some v ∧ (∀ o, (w1.alloc o).cell? ⟨B, 0, none⟩ = some v) ∧ base ≤ w1.heap.size ∧
      Hid (w1.ownsRow base 3 1 v1 l.length (l.map (Value.int .i64))) ∧ Hid ((X.alloc (.cells #[] e)).grownBy w1 (some X.heap.size)) ∧ Hid (v1.ownBlock = some X.heap.size ∨ v1.ownBlock = some (X.heap.size + 1)) := by
  rw [Nat.zero_add, List.nil_append] at hr1
  rw [World.size_alloc] at hn1
  have hn2 := hn1
  obtain ⟨g, k, rfl⟩ := own_pos hr1 hl
  have hB : Boxed w1 B 22 v := (hX.box.alloc _).kept hg1 (fun e => by cases e; have := hX.lt; omega)
  refine ⟨g, k, rfl, own_keep (hX.row.alloc _) hg1 (fun r e => ?_), hB.cell, fun o => (hB.alloc o).cell, ?_, hr1, hg1, hn2⟩
  · cases e; right; right; right; right; intro e; have := (hX.row.lt _ e).2; omega
  · have := hg1.size; rw [World.size_alloc] at this; omega

theorem copied2 {X w1 w2 : World} {base B : Nat} {v : Value} {ps : List Cp} {e : TypeId} {o : Obj} (hX : InBox X base B v ps) (hr1 : w1.ownsRow base 23 1 v ps.length (ps.map valP)) (hg2 : (w1.alloc o).grownBy w2 v.ownBlock)
    (hg1 : (X.alloc (.cells #[] e)).grownBy w1 (some X.heap.size)) : w2.cell? ⟨B, 0, none⟩ = some v ∧ w2.frozen? ⟨B, 0, none⟩ = false := by
  have hlt := hX.box.lt
  have hB : Boxed w1 B 22 v := (hX.box.alloc _).kept hg1 (fun e => by cases e; omega)
  have hB2 : Boxed w2 B 22 v := (hB.alloc o).kept hg2 (fun e => by have := (hr1.lt B e.symm).1; have := hX.lt; omega)
  exact ⟨hB2.cell, hB2.frozen⟩

/-- Only the box B and the row vb were written, and new blocks laid. -/
structure Moved (X w' : World) (B : Nat) (vb : Option Nat) : Prop where
  os : w'.os = X.os
  tape : w'.tape = X.tape
  output : w'.output = X.output
  size : X.heap.size ≤ w'.heap.size
  block : ∀ k, k < X.heap.size → k ≠ B → some k ≠ vb → w'.heap[k]? = X.heap[k]?

theorem Moved.box {X w' : World} {B : Nat} {vb : Option Nat} (h : Moved X w' B vb) {B' : Nat} {t : TypeId} {v : Value} (hb : Boxed X B' t v) (h1 : B' ≠ B) (h2 : some B' ≠ vb) : Boxed w' B' t v := (h.block B' hb.lt h1 h2).trans hb
theorem Moved.below {X w' : World} {B : Nat} {vb : Option Nat} (h : Moved X w' B vb) {N : Nat} (hs : N ≤ X.heap.size) (hB : N ≤ B) (hv : ∀ r, vb = some r → N ≤ r) : Below N X w' :=
  ⟨h.os, h.tape, h.output, h.size, fun k hk => h.block k (by omega) (by omega) (fun e => by have := hv k e.symm; omega)⟩
theorem Moved.keep2 {X w' : World} {B : Nat} {vb : Option Nat} (h : Moved X w' B vb) {p q : Nat} (hp : p < X.heap.size) (hq : q < X.heap.size) (h1 : p ≠ B) (h2 : q ≠ B) (hv : ∀ r, vb = some r → p < r ∧ q < r) : Keep2 p q X w' :=
  ⟨World.cell?_of_block (a := ⟨p, 0, none⟩) (h.block p hp h1 (fun e => by have := (hv p e.symm).1; omega)), World.cell?_of_block (a := ⟨q, 0, none⟩) (h.block q hq h2 (fun e => by have := (hv q e.symm).2; omega))⟩
theorem Moved.keeps {X w' : World} {B : Nat} {vb : Option Nat} (h : Moved X w' B vb) {t : TypeId} {v : Value} (hb : Boxed X B t v) (hv : ∀ r, vb = some r → ∃ cur e q, X.heap[r]? = some (.cells cur e q)) : KeepsOthers X w' :=
  ⟨h.size, fun k o hk ho => by
    refine (h.block k (Array.getElem?_eq_some_iff.1 hk).1 (fun e => ?_) (fun e => ?_)).trans hk
    · subst e; rw [show X.heap[k]? = _ from hb] at hk; cases hk; cases ho
    · obtain ⟨cur, t', q, h1⟩ := hv k e.symm; rw [h1] at hk; cases hk; cases ho⟩
theorem Moved.row {X w' : World} {B : Nat} {vb : Option Nat} (h : Moved X w' B vb) {base sz n : Nat} {e : TypeId} {v : Value} {xs : List Value} (hr : X.ownsRow base e sz v n xs) (hB : B < base) (hv : ∀ r, vb = some r → v.ownBlock ≠ some r) : w'.ownsRow base e sz v n xs := by
  refine ⟨hr.1, ?_⟩
  rcases hr.2 with hn | ⟨g, cap, cur, rfl, hb, hgg, rest⟩
  · exact .inl hn
  · refine .inr ⟨g, cap, cur, rfl, hb, ?_, rest⟩
    rw [h.block g (Array.getElem?_eq_some_iff.1 hgg).1 (by omega) (fun e => hv g e.symm rfl)]
    exact hgg

/-- One part more is in its box. -/
theorem pushed {X w1 w2 : World} {base B : Nat} {v v1 v2 : Value} {ub : Option Nat} {ps : List Cp} {l : List Int} {e : TypeId} {o2 : Obj} (hX : InBox X base B v ps)
    (hps : ∀ p ∈ ps, X.ownsRow base 3 1 (valP p) p.2.2.length (p.2.2.map (Value.int .i64)) ∧ ub ≠ some p.1) (hub : ∀ r, ub = some r → r < X.heap.size) (hl : 0 < l.length)
    (hr1 : w1.ownsRow base 3 1 v1 l.length (l.map (Value.int .i64))) (hg1 : (X.alloc (.cells #[] e)).grownBy w1 (some X.heap.size)) (hn1 : v1.ownBlock = some X.heap.size ∨ v1.ownBlock = some (X.heap.size + 1))
    (hr2 : w2.ownsRow base 23 1 v2 (ps.length + 1) (ps.map valP ++ [v1])) (hg2 : (w1.alloc o2).grownBy w2 v.ownBlock) :
    Moved X (w2.setCell ⟨B, 0, none⟩ v2) B v.ownBlock ∧ Boxed (w2.setCell ⟨B, 0, none⟩ v2) B 22 v2 ∧ HeldP (w2.setCell ⟨B, 0, none⟩ v2) base v2 ub (ps.map (fun p => p.2.2) ++ [l]) := by
  have hlt := hX.box.lt
  have hB : Boxed w1 B 22 v := (hX.box.alloc _).kept hg1 (fun e => by cases e; omega)
  have hB2 : Boxed w2 B 22 v := (hB.alloc o2).kept hg2 (fun e => by have := (hX.row.lt B e.symm).1; have := hX.lt; omega)
  have hs1 := hg1.size
  have hs2 := hg2.size
  rw [World.size_alloc] at hs1 hs2
  refine ⟨⟨?_, ?_, ?_, ?_, fun k hk hkB hkv => ?_⟩, hB2.set v2, (held_push hX.row hps hub hg1 hr1 hl hn1 hg2 hr2).keep (grownBy_setCell' w2 B v2) (fun r e => by cases e; exact .inl hX.lt)⟩
  · exact hg2.os.trans hg1.os
  · exact hg2.tape.trans hg1.tape
  · exact hg2.output.trans hg1.output
  · have := (grownBy_setCell' w2 B v2).size; omega
  · rw [Below.heap_setCell _ _ _ _ hkB, hg2.block k (by rw [World.size_alloc]; omega) hkv, Below.heap_alloc _ _ _ (by omega), hg1.block k (by rw [World.size_alloc]; omega) (fun e => by cases e; omega), Below.heap_alloc _ _ _ hk]

/-- What the loop keeps: four boxes, the parts, their capacities. -/
def ChunkInv (w : World) (most : Int) (L : List (List Int)) (W : World) : Prop :=
  ∃ v u, Boxed W w.heap.size 3 (.int .i64 most) ∧ Boxed W (w.heap.size + 1) 22 v ∧ Boxed W (w.heap.size + 2) 23 u ∧ Boxed W (w.heap.size + 3) 4 (.bool false) ∧
    HeldP W (w.heap.size + 6) v u.ownBlock L ∧ W.ownsRow (w.heap.size + 6) 3 1 u L.length (L.map fun l => .int .i64 (l.length : Int)) ∧ Below w.heap.size w W ∧ w.heap.size + 6 ≤ W.heap.size

theorem ChunkInv.drew {w W : World} {most : Int} {L : List (List Int)} (h : ChunkInv w most L W) : ChunkInv w most L W.drew := by
  obtain ⟨v, u, b0, b1, b2, b3, hh, hu, hb, hsz⟩ := h
  exact ⟨v, u, b0, b1, b2, b3, hh, hu, hb.drew, hsz⟩

theorem chunkInv_own {w : World} {most : Int} {α : Type} (f : α → List (List Int)) (B : Nat) (hB : w.heap.size + 6 ≤ B) : OwnFrom B (fun pre W => ChunkInv w most (f pre) W) := by
  rintro pre X Y row ⟨v, u, b0, b1, b2, b3, hh, hu, hb, hsz⟩ hg hr
  have hne : ∀ k, k < w.heap.size + 6 → some k ≠ row := fun k hk e => by have := (hr k e.symm).1; omega
  exact ⟨v, u, b0.kept hg (hne _ (by omega)), b1.kept hg (hne _ (by omega)), b2.kept hg (hne _ (by omega)), b3.kept hg (hne _ (by omega)),
    hh.keep hg (fun r e => .inr (.inr (hr r e).2)), own_keep hu hg (fun r e => .inr (.inr (.inl (hr r e).2))), ownFrom_below (β := Unit) (Nat.le_refl _) (by omega) () X Y row hb hg hr, Nat.le_trans hsz hg.size⟩

/-- The deferred closure, of a frame that returns. -/
theorem wcatch_idle (n : Nat) (p q r : Addr) (w : World) :
    CallsDIn Fence.wide n Try.prog 32 #[.pointer (some p), .pointer (some q), .pointer (some r)] .returning w fun e u' w' => e = .returned (.tuple #[]) ∧ u' = .returning ∧ w' = w := by
  refine callsDIn_of_wpSIn Try.func32 rfl trivial fun c₀ cs hu => ?_
  apply wpSIn_seq
  apply wpSIn_region
  simp [wpOpsSIn, go_sem, recoverD, hu, Try.ntmps32, Exit.thenS]
  refine wpSIn_cond (t := false) (by simp [Act.eval, Array.replicate]) ?_
  simp only [Bool.false_eq_true, if_false]
  refine wpSIn_of_wpIn rfl (wpIn_skip ?_)
  cases c₀
  simp_all [bodyPostS, results, Try.results32]

/-- The k-th part. -/
def partL (zs : List Int) (m k : Nat) : List Int := (zs.drop (k * m)).take m

/-- What impl.WalkChunk hands back. -/
def WalkChunkPost (w : World) (L : List (List Int)) (e : Ending) (w' : World) : Prop :=
  ∃ v u, e = .returned (.tuple #[v, u, .bool false]) ∧ HeldP w' w.heap.size v u.ownBlock L ∧ w'.ownsRow w.heap.size 3 1 u L.length (L.map fun l => .int .i64 (l.length : Int)) ∧ Below w.heap.size w w'

theorem chunkLeaves {w W : World} {D : Nat} {most : Int} {L : List (List Int)} {tmps : Array Value} (h : ChunkInv w most L W) (hD : w.heap.size + 6 ≤ D) (hK : W.heap[D]? = some (.deferred (some []))) (h6 : tmps[6]?.getD undef = .pointer (some ⟨w.heap.size + 1, 0, none⟩)) (h7 : tmps[7]?.getD undef = .pointer (some ⟨w.heap.size + 2, 0, none⟩)) (h8 : tmps[8]?.getD undef = .pointer (some ⟨w.heap.size + 3, 0, none⟩)) :
    LeavesInM Fence.wide 5 Try.prog Try.f15 tmps (WalkChunkPost w L) [{ target := .collected D, args := #[] }, { target := .fn (.func 32) #[.pointer (some ⟨w.heap.size + 1, 0, none⟩), .pointer (some ⟨w.heap.size + 2, 0, none⟩), .pointer (some ⟨w.heap.size + 3, 0, none⟩)], args := #[] }] .returning W := by
  have h' := (chunkInv_own (most := most) (w := w) (fun _ : Unit => L) (w.heap.size + 6) (Nat.le_refl _)).putObj (s := ()) (.deferred none) h hD hK rfl
  refine ⟨by simp, .inl ⟨_, _, rfl, run_takeDeferred hK, ?_⟩⟩
  refine ⟨by simp, .inr ⟨fun _ => by omega, _, _, 32, #[.pointer (some ⟨w.heap.size + 1, 0, none⟩), .pointer (some ⟨w.heap.size + 2, 0, none⟩), .pointer (some ⟨w.heap.size + 3, 0, none⟩)], rfl, by simp [go_sem], fun g _ => trivial, ?_⟩⟩
  refine (wcatch_idle 4 _ _ _ _).mono ?_
  rintro e u' w' ⟨rfl, rfl, rfl⟩
  obtain ⟨v, u, b0, b1, b2, b3, hh, hu, hb, _⟩ := h'
  have c1 := b1.cell
  have c2 := b2.cell
  have c3 := b3.cell
  obtain ⟨ps, _, hr, _⟩ := id hh
  obtain ⟨Av, cv, rfl, _⟩ := own_form hr
  obtain ⟨Au, cu, rfl, _⟩ := own_form hu
  refine ⟨.tuple #[_, _, _], ?_, _, _, rfl, hh.base (by omega), own_base hu (by omega), hb⟩
  simp [results, Try.results15, go_sem, h6, h7, h8, c1, c2, c3]

set_option maxRecDepth 100000 in
set_option maxHeartbeats 8000000 in
/-- impl.WalkChunk -/
theorem walkChunk_calls (w : World) (sv : Value) (zs : List Int) (m : Nat) (most : Int) (hI : SeesI w w.heap.size sv zs) (hm : 0 < m) (hm63 : m ≤ 9223372036854775807) (hz : zs.length * 24 ≤ 140737488351232) :
    Calls Try.prog 15 #[sv, .int .i64 (m : Int), .int .i64 most] w (WalkChunkPost w ((partsL zs m).take most.toNat)) := by
  have hmf : ∀ (fn : Fn) (first cap : Array Value) (w : World), (Instr.makeFunc fn first cap).run Try.prog w = .ok (.func fn first cap) w := fun _ _ _ _ => rfl
  obtain ⟨A, c, rfl, hlc, hx⟩ := hI.form
  obtain ⟨b, off, hA⟩ : ∃ b off, 0 < zs.length → A = some (⟨b, off, none⟩ : Addr) := by
    rcases Nat.eq_zero_or_pos zs.length with h | h
    · exact ⟨0, 0, fun h' => by omega⟩
    · obtain ⟨b, off, hA, _⟩ := hx h
      exact ⟨b, off, fun _ => hA⟩
  clear hx
  obtain ⟨i0, hi, hz0, hz1, hz2⟩ := info_parts Try.infoInt
  obtain ⟨i1, hj, hy0, hy1, hy2⟩ := info_parts Try.infoSl
  have hcl := cntS_le zs.length m hm
  have hfV : Fence.wide.fn 33 := trivial
  refine (callsIn_wide (n := 5)).1 ?_
  refine callsIn_of_wp_marks Try.func15 rfl trivial ?_ rfl
  simp only [Try.ntmps15, List.size_toArray, List.length_cons, List.length_nil, Nat.reduceAdd, Nat.reduceSub, Array.replicate_succ, Array.replicate_zero, List.push_toArray, List.append_toArray, List.nil_append, List.cons_append]
  gi_wp2_with (gi_at_call 33; refine (callsIn_wide.2 (chunk_calls _ _ _ _ hm _)).mono ?_; rintro e w' ⟨rfl, rfl⟩)
  have k0 := (((((Boxed.new w 3 (.int .i64 most)).alloc (.cells #[.slice none 0 0] 22)).alloc (.cells #[.slice none 0 0] 23)).alloc (.cells #[.bool false] 4)).alloc (.cells #[.slice A zs.length c] 23)).alloc (.cells #[.int .i64 (m : Int)] 3)
  have k1 := ((((Boxed.new (w.alloc (.cells #[.int .i64 most] 3)) 22 (.slice none 0 0)).alloc (.cells #[.slice none 0 0] 23)).alloc (.cells #[.bool false] 4)).alloc (.cells #[.slice A zs.length c] 23)).alloc (.cells #[.int .i64 (m : Int)] 3)
  have k2 := (((Boxed.new ((w.alloc (.cells #[.int .i64 most] 3)).alloc (.cells #[.slice none 0 0] 22)) 23 (.slice none 0 0)).alloc (.cells #[.bool false] 4)).alloc (.cells #[.slice A zs.length c] 23)).alloc (.cells #[.int .i64 (m : Int)] 3)
  have k3 := ((Boxed.new (((w.alloc (.cells #[.int .i64 most] 3)).alloc (.cells #[.slice none 0 0] 22)).alloc (.cells #[.slice none 0 0] 23)) 4 (.bool false)).alloc (.cells #[.slice A zs.length c] 23)).alloc (.cells #[.int .i64 (m : Int)] 3)
  have k4 := (Boxed.new ((((w.alloc (.cells #[.int .i64 most] 3)).alloc (.cells #[.slice none 0 0] 22)).alloc (.cells #[.slice none 0 0] 23)).alloc (.cells #[.bool false] 4)) 23 (.slice A zs.length c)).alloc (.cells #[.int .i64 (m : Int)] 3)
  have k5 := Boxed.new (((((w.alloc (.cells #[.int .i64 most] 3)).alloc (.cells #[.slice none 0 0] 22)).alloc (.cells #[.slice none 0 0] 23)).alloc (.cells #[.bool false] 4)).alloc (.cells #[.slice A zs.length c] 23)) 3 (.int .i64 (m : Int))
  have hB0 := ((((((Below.refl w.heap.size w).alloc (Nat.le_refl _) (.cells #[.int .i64 most] 3)).alloc (by simp) (.cells #[.slice none 0 0] 22)).alloc (by simp; omega) (.cells #[.slice none 0 0] 23)).alloc (by simp; omega) (.cells #[.bool false] 4)).alloc (by simp; omega) (.cells #[.slice A zs.length c] 23)).alloc (by simp; omega) (.cells #[.int .i64 (m : Int)] 3)
  have hsz : ((((((w.alloc (.cells #[.int .i64 most] 3)).alloc (.cells #[.slice none 0 0] 22)).alloc (.cells #[.slice none 0 0] 23)).alloc (.cells #[.bool false] 4)).alloc (.cells #[.slice A zs.length c] 23)).alloc (.cells #[.int .i64 (m : Int)] 3)).heap.size = w.heap.size + 6 := by simp
  simp only [World.size_alloc, Nat.add_assoc, Nat.reduceAdd] at k1 k2 k3 k4 k5 ⊢
  generalize (((((w.alloc (.cells #[.int .i64 most] 3)).alloc (.cells #[.slice none 0 0] 22)).alloc (.cells #[.slice none 0 0] 23)).alloc (.cells #[.bool false] 4)).alloc (.cells #[.slice A zs.length c] 23)).alloc (.cells #[.int .i64 (m : Int)] 3) = W0 at k0 k1 k2 k3 k4 k5 hB0 hsz ⊢
  have h00 : ChunkInv w most [] W0 := ⟨_, _, k0, k1, k2, k3, HeldP.nil _ _ _, World.ownsRow_nil _ _ _ _, hB0, by omega⟩
  refine wpIn_rangeFunc_ownG rfl (by omega) (gf := 47) (lb := #[.pointer (some ⟨w.heap.size + 4, 0, none⟩), .pointer (some ⟨w.heap.size + 5, 0, none⟩)]) rfl trivial (enters_of Try.func47 (by kernel_rfl) rfl)
    (chunk_numbered 4 (by omega) (w.heap.size + 4) (w.heap.size + 5) b off zs.length c m A hm hm63 (by omega) hA hlc W0 (by omega) (by omega) k4.cell k5.cell) (fun h k => h.trans k)
    (fun W l o o' hl ho _ _ => keep2_grown (grownBy_putObj' W l o') (by have := (Array.getElem?_eq_some_iff.1 ho).1; omega) (by have := (Array.getElem?_eq_some_iff.1 ho).1; omega) (fun e => by cases e; omega) (fun e => by cases e; omega)) (Below.refl _ _) (fun _ => rfl)
    (fun pre W => ChunkInv w most (pre.map fun k => partL zs m k.1) W ∧ pre.length ≤ most.toNat)
    (fun c pre W => ChunkInv w most (pre.dropLast.map fun k => partL zs m k.1) W ∧ (c = .exit 0 ∧ most ≤ (pre.dropLast.length : Int) ∧ pre.dropLast.length ≤ most.toNat))
    (OwnFrom.and (chunkInv_own _ _ (by omega)) (ownFrom_pure _ _)) (fun c => OwnFrom.and (chunkInv_own _ _ (by omega)) (ownFrom_pure _ _))
    ⟨h00, Nat.zero_le _⟩
    (fun x => { tmps := #[.slice A zs.length c, .int .i64 (m : Int), .int .i64 most, undef, undef, .pointer (some ⟨w.heap.size, 0, none⟩), .pointer (some ⟨w.heap.size + 1, 0, none⟩), .pointer (some ⟨w.heap.size + 2, 0, none⟩), .pointer (some ⟨w.heap.size + 3, 0, none⟩), encS (partS b off zs.length m x.1),
      .func (.func 32) #[] #[.pointer (some ⟨w.heap.size + 1, 0, none⟩), .pointer (some ⟨w.heap.size + 2, 0, none⟩), .pointer (some ⟨w.heap.size + 3, 0, none⟩)], .slice A zs.length c, .int .i64 (m : Int),
      .func (.func 47) #[] #[.pointer (some ⟨w.heap.size + 4, 0, none⟩), .pointer (some ⟨w.heap.size + 5, 0, none⟩)], encS (partS b off zs.length m x.1), undef, undef, undef, undef, undef, undef, undef, undef, undef, undef, undef, undef, undef, undef, undef, undef, undef], defers := [] }) ?assign ?body ?done ?stop
  case assign =>
    intro l x W K hK
    gi_wp2
    exact hK
  case body =>
    rintro l pre x W ⟨⟨v, u, b0, b1, b2, b3, ⟨ps, hps1, hrow, hps2⟩, hu, hB, hbW⟩, hle⟩ hlt
    have hpl : ps.length = pre.length := by have := congrArg List.length hps1; simpa using this
    obtain ⟨A2, c2, rfl, _⟩ := own_form hrow
    have Hps1 := Lib.hid hps1
    have Hps2 := Lib.hid hps2
    have Hpl := Lib.hid hpl
    have hpb : ps.length + 1 ≤ zs.length := by omega
    have hpm : ps.length ≤ most.toNat := by omega
    clear hps1 hps2 hpl
    have cM := b0.cell
    have cP := b1.cell
    have cF := b1.frozen
    by_cases ht : most ≤ (ps.length : Int)
    · gi_wp2
      refine ⟨KeepsFrom.refl _ _, ⟨_, _, b0, b1, b2, b3, ⟨ps, ?_, hrow, Hps2.out⟩, ?_, hB, hbW⟩, rfl, ?_, ?_⟩
      · rw [List.dropLast_concat]; exact Hps1.out
      · rw [List.dropLast_concat]; exact hu
      · rw [List.dropLast_concat, ← Hpl.out]; exact ht
      · rw [List.dropLast_concat]; exact hle
    · have hxm := (cntS_lt hm).1 x.2
      have hl0 : 0 < (partL zs m x.1).length := by simp [partL]; omega
      have hlm : (partL zs m x.1).length = min m (zs.length - x.1 * m) := by simp [partL]
      have Hlm := Lib.hid hlm
      have hll : (partL zs m x.1).length ≤ zs.length := by omega
      have hsI := (hI.below hB).more (B' := W.heap.size) hB.size
      rw [hA (by omega)] at hsI
      have hsP := hsI.mid (x.1 * m) m hxm
      change SeesI W W.heap.size _ (partL zs m x.1) at hsP
      rw [← hlm] at hsP
      have hpe : encS (partS b off zs.length m x.1) = .slice (some ⟨b, off + x.1 * m, none⟩) (partL zs m x.1).length (partL zs m x.1).length := by rw [hlm]; rfl
      rw [hpe]
      clear hsI hpe hlm
      gi_wp2_with fail
      have hub : ∀ r, u.ownBlock = some r → r < W.drew.heap.size := fun r e => (hu.lt r e).2
      have hX : InBox W.drew (w.heap.size + 6) (w.heap.size + 1) (.slice A2 ps.length c2) ps := ⟨b1, by omega, hrow⟩
      have HX : Hid (∀ p ∈ ps, W.drew.ownsRow (w.heap.size + 6) 3 1 (valP p) p.2.2.length (p.2.2.map (Value.int .i64)) ∧ u.ownBlock ≠ some p.1) := Hps2
      have hsee := Lib.hid (show Sees (W.drew.alloc (.cells #[] 3)) W.heap.size 1 (.slice (some ⟨b, off + x.1 * m, none⟩) (partL zs m x.1).length (partL zs m x.1).length) (partL zs m x.1).length ((partL zs m x.1).map (Value.int .i64)) from Sees.below hsP (((Below.refl _ W).drew).alloc (Nat.le_refl _) _))
      have hbX : w.heap.size + 6 ≤ W.drew.heap.size := hbW
      have g0 : W.drew.cell? ⟨w.heap.size + 1, 0, none⟩ = some (.slice A2 ps.length c2) := cP
      have g1 : ∀ o, (W.drew.alloc o).cell? ⟨w.heap.size + 1, 0, none⟩ = some (.slice A2 ps.length c2) := fun o => (Boxed.alloc (show Boxed W.drew _ _ _ from b1) o).cell
      refine wpIn_mono (Q := fun e a' w' => e = .normal ∧ ∃ s19 s20 s21 s22 s23 s24 gv kv, a' = { tmps := #[.slice A zs.length c, .int .i64 (m : Int), .int .i64 most, undef, undef, .pointer (some ⟨w.heap.size, 0, none⟩), .pointer (some ⟨w.heap.size + 1, 0, none⟩), .pointer (some ⟨w.heap.size + 2, 0, none⟩), .pointer (some ⟨w.heap.size + 3, 0, none⟩), .slice (some ⟨b, off + x.1 * m, none⟩) (partL zs m x.1).length (partL zs m x.1).length,
        .func (.func 32) #[] #[.pointer (some ⟨w.heap.size + 1, 0, none⟩), .pointer (some ⟨w.heap.size + 2, 0, none⟩), .pointer (some ⟨w.heap.size + 3, 0, none⟩)], .slice A zs.length c, .int .i64 (m : Int),
        .func (.func 47) #[] #[.pointer (some ⟨w.heap.size + 4, 0, none⟩), .pointer (some ⟨w.heap.size + 5, 0, none⟩)], .slice (some ⟨b, off + x.1 * m, none⟩) (partL zs m x.1).length (partL zs m x.1).length, .slice A2 ps.length c2, .int .i64 (ps.length : Int), .int .i64 most, .bool false, s19, s20, s21, s22, s23, s24, undef, undef, undef, undef, undef, undef, undef], defers := [] } ∧
        Moved W.drew w' (w.heap.size + 1) (Value.slice A2 ps.length c2).ownBlock ∧ Boxed w' (w.heap.size + 1) 22 (.slice (some ⟨gv, 0, none⟩) (ps.length + 1) kv) ∧ HeldP w' (w.heap.size + 6) (.slice (some ⟨gv, 0, none⟩) (ps.length + 1) kv) u.ownBlock (ps.map (fun p => p.2.2) ++ [partL zs m x.1])) ?region ?rest
      case region =>
        refine wpIn_region_any (by kernel_rfl) ?_
        change wpAnyIn _ _ _ _ _ _ _ _ _ (World.drew _)
        clear hsP b0 b1 b2 b3 hrow hu hB cM cP cF hI k0 k1 k2 k3 k4 k5 hB0 h00
        generalize W.drew = X at hub hX HX hsee hbX g0 g1 ⊢
        refine wpAnyIn_ready (rs := [0, 1, 2]) (by kernel_rfl) (by simp) ?_
        refine AllReadyIn.cons rfl (fun K hK => ?_) ?_
        · go_simp
          refine hK _ _ ?_
          clear hK K
          refine wpAnyIn_ready (rs := [1, 2]) (by kernel_rfl) (by simp) ?_
          refine AllReadyIn.cons rfl (fun K hK => ?_) ?_
          · go_simp
            refine hK _ _ ?_
            clear hK K
            refine wpAnyIn_ready (rs := [2]) (by kernel_rfl) (by simp) ?_
            refine AllReadyIn.cons rfl (fun K hK => ?_) ?_
            · go_simp
              refine hK _ _ ?_
              clear hK K
              refine wpAnyIn_ready (rs := [3]) (by kernel_rfl) (by simp) ?_
              refine AllReadyIn.cons rfl (fun K hK => ?_) ?_
              · rw [if_pos (by rfl)]
                refine wpIn_append_sees _ (.tmp 20) (.tmp 21) 23 rfl (w.heap.size + 6) 3 i0 (.int .i64 0) 1 8 Try.underlying23 hi hz0 hz1 hz2 rfl (by decide) (.slice (some ⟨X.heap.size, 0, none⟩) 0 0) 0 [] (by first | rfl | simp [Act.eval, Act.put]) (own_empty X (w.heap.size + 6) 1 3 hbX) _ _ _ _ (by first | rfl | simp [Act.eval, Act.put]) hsee.out (int_cell _) (by unfold maxLen; omega) (by omega) (by simp; omega) ?_
                intro v1 w1 hr1 hg1 _ hn1
                obtain ⟨g1, k1, rfl, hr1', q1, q2, hbw1, Hr1, Hg1, Hn1⟩ := copied hX hbX hl0 hr1 hg1 hn1
                clear hr1 hg1 hn1
                refine hK _ _ ?_
                clear hK K
                refine wpAnyIn_ready (rs := [4]) (by kernel_rfl) (by simp) ?_
                refine AllReadyIn.cons rfl (fun K hK => ?_) ?_
                · go_simp
                  refine hK _ _ ?_
                  clear hK K
                  refine wpAnyIn_ready (rs := [5]) (by kernel_rfl) (by simp) ?_
                  refine AllReadyIn.cons rfl (fun K hK => ?_) ?_
                  · rw [if_pos (by rfl)]
                    refine wpIn_append_sees _ (.tmp 19) (.tmp 23) 22 rfl (w.heap.size + 6) 23 i1 (.slice none 0 0) 1 24 Try.underlying22 hj hy0 hy1 hy2 rfl (by decide) (.slice A2 ps.length c2) ps.length (ps.map valP) (by first | rfl | simp [Act.eval, Act.put]) (hr1'.alloc _) _ _ _ _ (by first | rfl | simp [Act.eval, Act.put]) (sees_one w1 _ _) (by simp [Value.oneCell']) (by unfold maxLen; omega) (by omega) (by simp; omega) ?_
                    intro v2 w2 hr2 hg2 _ _
                    obtain ⟨gv, kv, rfl⟩ := ownsRow_succ hr2
                    obtain ⟨y1, y2⟩ := copied2 hX hr1' hg2 Hg1.out
                    refine hK _ _ ?_
                    clear hK K
                    refine wpAnyIn_ready (rs := [6]) (by kernel_rfl) (by simp) ?_
                    refine AllReadyIn.cons rfl (fun K hK => ?_) ?_
                    · go_simp
                      refine hK _ _ ?_
                      clear hK K
                      refine wpAnyIn_done (by kernel_rfl) ?_ _
                      exact ⟨rfl, _, _, _, _, _, _, _, _, rfl, pushed hX HX.out hub hl0 Hr1.out Hg1.out Hn1.out hr2 hg2⟩
                    exact AllReadyIn.nil
                  exact AllReadyIn.nil
                exact AllReadyIn.nil
              exact AllReadyIn.nil
            exact AllReadyIn.nil
          refine AllReadyIn.cons rfl (fun K hK => ?_) ?_
          · go_simp
            refine hK _ _ ?_
            clear hK K
            refine wpAnyIn_ready (rs := [1]) (by kernel_rfl) (by simp) ?_
            refine AllReadyIn.cons rfl (fun K hK => ?_) ?_
            · go_simp
              refine hK _ _ ?_
              clear hK K
              refine wpAnyIn_ready (rs := [3]) (by kernel_rfl) (by simp) ?_
              refine AllReadyIn.cons rfl (fun K hK => ?_) ?_
              · rw [if_pos (by rfl)]
                refine wpIn_append_sees _ (.tmp 20) (.tmp 21) 23 rfl (w.heap.size + 6) 3 i0 (.int .i64 0) 1 8 Try.underlying23 hi hz0 hz1 hz2 rfl (by decide) (.slice (some ⟨X.heap.size, 0, none⟩) 0 0) 0 [] (by first | rfl | simp [Act.eval, Act.put]) (own_empty X (w.heap.size + 6) 1 3 hbX) _ _ _ _ (by first | rfl | simp [Act.eval, Act.put]) hsee.out (int_cell _) (by unfold maxLen; omega) (by omega) (by simp; omega) ?_
                intro v1 w1 hr1 hg1 _ hn1
                obtain ⟨g1, k1, rfl, hr1', q1, q2, hbw1, Hr1, Hg1, Hn1⟩ := copied hX hbX hl0 hr1 hg1 hn1
                clear hr1 hg1 hn1
                refine hK _ _ ?_
                clear hK K
                refine wpAnyIn_ready (rs := [4]) (by kernel_rfl) (by simp) ?_
                refine AllReadyIn.cons rfl (fun K hK => ?_) ?_
                · go_simp
                  refine hK _ _ ?_
                  clear hK K
                  refine wpAnyIn_ready (rs := [5]) (by kernel_rfl) (by simp) ?_
                  refine AllReadyIn.cons rfl (fun K hK => ?_) ?_
                  · rw [if_pos (by rfl)]
                    refine wpIn_append_sees _ (.tmp 19) (.tmp 23) 22 rfl (w.heap.size + 6) 23 i1 (.slice none 0 0) 1 24 Try.underlying22 hj hy0 hy1 hy2 rfl (by decide) (.slice A2 ps.length c2) ps.length (ps.map valP) (by first | rfl | simp [Act.eval, Act.put]) (hr1'.alloc _) _ _ _ _ (by first | rfl | simp [Act.eval, Act.put]) (sees_one w1 _ _) (by simp [Value.oneCell']) (by unfold maxLen; omega) (by omega) (by simp; omega) ?_
                    intro v2 w2 hr2 hg2 _ _
                    obtain ⟨gv, kv, rfl⟩ := ownsRow_succ hr2
                    obtain ⟨y1, y2⟩ := copied2 hX hr1' hg2 Hg1.out
                    refine hK _ _ ?_
                    clear hK K
                    refine wpAnyIn_ready (rs := [6]) (by kernel_rfl) (by simp) ?_
                    refine AllReadyIn.cons rfl (fun K hK => ?_) ?_
                    · go_simp
                      refine hK _ _ ?_
                      clear hK K
                      refine wpAnyIn_done (by kernel_rfl) ?_ _
                      exact ⟨rfl, _, _, _, _, _, _, _, _, rfl, pushed hX HX.out hub hl0 Hr1.out Hg1.out Hn1.out hr2 hg2⟩
                    exact AllReadyIn.nil
                  exact AllReadyIn.nil
                exact AllReadyIn.nil
              exact AllReadyIn.nil
            exact AllReadyIn.nil
          exact AllReadyIn.nil
        refine AllReadyIn.cons rfl (fun K hK => ?_) ?_
        · go_simp
          refine hK _ _ ?_
          clear hK K
          refine wpAnyIn_ready (rs := [0, 2]) (by kernel_rfl) (by simp) ?_
          refine AllReadyIn.cons rfl (fun K hK => ?_) ?_
          · go_simp
            refine hK _ _ ?_
            clear hK K
            refine wpAnyIn_ready (rs := [2]) (by kernel_rfl) (by simp) ?_
            refine AllReadyIn.cons rfl (fun K hK => ?_) ?_
            · go_simp
              refine hK _ _ ?_
              clear hK K
              refine wpAnyIn_ready (rs := [3]) (by kernel_rfl) (by simp) ?_
              refine AllReadyIn.cons rfl (fun K hK => ?_) ?_
              · rw [if_pos (by rfl)]
                refine wpIn_append_sees _ (.tmp 20) (.tmp 21) 23 rfl (w.heap.size + 6) 3 i0 (.int .i64 0) 1 8 Try.underlying23 hi hz0 hz1 hz2 rfl (by decide) (.slice (some ⟨X.heap.size, 0, none⟩) 0 0) 0 [] (by first | rfl | simp [Act.eval, Act.put]) (own_empty X (w.heap.size + 6) 1 3 hbX) _ _ _ _ (by first | rfl | simp [Act.eval, Act.put]) hsee.out (int_cell _) (by unfold maxLen; omega) (by omega) (by simp; omega) ?_
                intro v1 w1 hr1 hg1 _ hn1
                obtain ⟨g1, k1, rfl, hr1', q1, q2, hbw1, Hr1, Hg1, Hn1⟩ := copied hX hbX hl0 hr1 hg1 hn1
                clear hr1 hg1 hn1
                refine hK _ _ ?_
                clear hK K
                refine wpAnyIn_ready (rs := [4]) (by kernel_rfl) (by simp) ?_
                refine AllReadyIn.cons rfl (fun K hK => ?_) ?_
                · go_simp
                  refine hK _ _ ?_
                  clear hK K
                  refine wpAnyIn_ready (rs := [5]) (by kernel_rfl) (by simp) ?_
                  refine AllReadyIn.cons rfl (fun K hK => ?_) ?_
                  · rw [if_pos (by rfl)]
                    refine wpIn_append_sees _ (.tmp 19) (.tmp 23) 22 rfl (w.heap.size + 6) 23 i1 (.slice none 0 0) 1 24 Try.underlying22 hj hy0 hy1 hy2 rfl (by decide) (.slice A2 ps.length c2) ps.length (ps.map valP) (by first | rfl | simp [Act.eval, Act.put]) (hr1'.alloc _) _ _ _ _ (by first | rfl | simp [Act.eval, Act.put]) (sees_one w1 _ _) (by simp [Value.oneCell']) (by unfold maxLen; omega) (by omega) (by simp; omega) ?_
                    intro v2 w2 hr2 hg2 _ _
                    obtain ⟨gv, kv, rfl⟩ := ownsRow_succ hr2
                    obtain ⟨y1, y2⟩ := copied2 hX hr1' hg2 Hg1.out
                    refine hK _ _ ?_
                    clear hK K
                    refine wpAnyIn_ready (rs := [6]) (by kernel_rfl) (by simp) ?_
                    refine AllReadyIn.cons rfl (fun K hK => ?_) ?_
                    · go_simp
                      refine hK _ _ ?_
                      clear hK K
                      refine wpAnyIn_done (by kernel_rfl) ?_ _
                      exact ⟨rfl, _, _, _, _, _, _, _, _, rfl, pushed hX HX.out hub hl0 Hr1.out Hg1.out Hn1.out hr2 hg2⟩
                    exact AllReadyIn.nil
                  exact AllReadyIn.nil
                exact AllReadyIn.nil
              exact AllReadyIn.nil
            exact AllReadyIn.nil
          refine AllReadyIn.cons rfl (fun K hK => ?_) ?_
          · go_simp
            refine hK _ _ ?_
            clear hK K
            refine wpAnyIn_ready (rs := [0, 3]) (by kernel_rfl) (by simp) ?_
            refine AllReadyIn.cons rfl (fun K hK => ?_) ?_
            · go_simp
              refine hK _ _ ?_
              clear hK K
              refine wpAnyIn_ready (rs := [3]) (by kernel_rfl) (by simp) ?_
              refine AllReadyIn.cons rfl (fun K hK => ?_) ?_
              · rw [if_pos (by rfl)]
                refine wpIn_append_sees _ (.tmp 20) (.tmp 21) 23 rfl (w.heap.size + 6) 3 i0 (.int .i64 0) 1 8 Try.underlying23 hi hz0 hz1 hz2 rfl (by decide) (.slice (some ⟨X.heap.size, 0, none⟩) 0 0) 0 [] (by first | rfl | simp [Act.eval, Act.put]) (own_empty X (w.heap.size + 6) 1 3 hbX) _ _ _ _ (by first | rfl | simp [Act.eval, Act.put]) hsee.out (int_cell _) (by unfold maxLen; omega) (by omega) (by simp; omega) ?_
                intro v1 w1 hr1 hg1 _ hn1
                obtain ⟨g1, k1, rfl, hr1', q1, q2, hbw1, Hr1, Hg1, Hn1⟩ := copied hX hbX hl0 hr1 hg1 hn1
                clear hr1 hg1 hn1
                refine hK _ _ ?_
                clear hK K
                refine wpAnyIn_ready (rs := [4]) (by kernel_rfl) (by simp) ?_
                refine AllReadyIn.cons rfl (fun K hK => ?_) ?_
                · go_simp
                  refine hK _ _ ?_
                  clear hK K
                  refine wpAnyIn_ready (rs := [5]) (by kernel_rfl) (by simp) ?_
                  refine AllReadyIn.cons rfl (fun K hK => ?_) ?_
                  · rw [if_pos (by rfl)]
                    refine wpIn_append_sees _ (.tmp 19) (.tmp 23) 22 rfl (w.heap.size + 6) 23 i1 (.slice none 0 0) 1 24 Try.underlying22 hj hy0 hy1 hy2 rfl (by decide) (.slice A2 ps.length c2) ps.length (ps.map valP) (by first | rfl | simp [Act.eval, Act.put]) (hr1'.alloc _) _ _ _ _ (by first | rfl | simp [Act.eval, Act.put]) (sees_one w1 _ _) (by simp [Value.oneCell']) (by unfold maxLen; omega) (by omega) (by simp; omega) ?_
                    intro v2 w2 hr2 hg2 _ _
                    obtain ⟨gv, kv, rfl⟩ := ownsRow_succ hr2
                    obtain ⟨y1, y2⟩ := copied2 hX hr1' hg2 Hg1.out
                    refine hK _ _ ?_
                    clear hK K
                    refine wpAnyIn_ready (rs := [6]) (by kernel_rfl) (by simp) ?_
                    refine AllReadyIn.cons rfl (fun K hK => ?_) ?_
                    · go_simp
                      refine hK _ _ ?_
                      clear hK K
                      refine wpAnyIn_done (by kernel_rfl) ?_ _
                      exact ⟨rfl, _, _, _, _, _, _, _, _, rfl, pushed hX HX.out hub hl0 Hr1.out Hg1.out Hn1.out hr2 hg2⟩
                    exact AllReadyIn.nil
                  exact AllReadyIn.nil
                exact AllReadyIn.nil
              exact AllReadyIn.nil
            refine AllReadyIn.cons rfl (fun K hK => ?_) ?_
            · rw [if_pos (by rfl)]
              refine wpIn_append_sees _ (.tmp 20) (.tmp 21) 23 rfl (w.heap.size + 6) 3 i0 (.int .i64 0) 1 8 Try.underlying23 hi hz0 hz1 hz2 rfl (by decide) (.slice (some ⟨X.heap.size, 0, none⟩) 0 0) 0 [] (by first | rfl | simp [Act.eval, Act.put]) (own_empty X (w.heap.size + 6) 1 3 hbX) _ _ _ _ (by first | rfl | simp [Act.eval, Act.put]) hsee.out (int_cell _) (by unfold maxLen; omega) (by omega) (by simp; omega) ?_
              intro v1 w1 hr1 hg1 _ hn1
              obtain ⟨g1, k1, rfl, hr1', q1, q2, hbw1, Hr1, Hg1, Hn1⟩ := copied hX hbX hl0 hr1 hg1 hn1
              clear hr1 hg1 hn1
              refine hK _ _ ?_
              clear hK K
              refine wpAnyIn_ready (rs := [0, 4]) (by kernel_rfl) (by simp) ?_
              refine AllReadyIn.cons rfl (fun K hK => ?_) ?_
              · go_simp
                refine hK _ _ ?_
                clear hK K
                refine wpAnyIn_ready (rs := [4]) (by kernel_rfl) (by simp) ?_
                refine AllReadyIn.cons rfl (fun K hK => ?_) ?_
                · go_simp
                  refine hK _ _ ?_
                  clear hK K
                  refine wpAnyIn_ready (rs := [5]) (by kernel_rfl) (by simp) ?_
                  refine AllReadyIn.cons rfl (fun K hK => ?_) ?_
                  · rw [if_pos (by rfl)]
                    refine wpIn_append_sees _ (.tmp 19) (.tmp 23) 22 rfl (w.heap.size + 6) 23 i1 (.slice none 0 0) 1 24 Try.underlying22 hj hy0 hy1 hy2 rfl (by decide) (.slice A2 ps.length c2) ps.length (ps.map valP) (by first | rfl | simp [Act.eval, Act.put]) (hr1'.alloc _) _ _ _ _ (by first | rfl | simp [Act.eval, Act.put]) (sees_one w1 _ _) (by simp [Value.oneCell']) (by unfold maxLen; omega) (by omega) (by simp; omega) ?_
                    intro v2 w2 hr2 hg2 _ _
                    obtain ⟨gv, kv, rfl⟩ := ownsRow_succ hr2
                    obtain ⟨y1, y2⟩ := copied2 hX hr1' hg2 Hg1.out
                    refine hK _ _ ?_
                    clear hK K
                    refine wpAnyIn_ready (rs := [6]) (by kernel_rfl) (by simp) ?_
                    refine AllReadyIn.cons rfl (fun K hK => ?_) ?_
                    · go_simp
                      refine hK _ _ ?_
                      clear hK K
                      refine wpAnyIn_done (by kernel_rfl) ?_ _
                      exact ⟨rfl, _, _, _, _, _, _, _, _, rfl, pushed hX HX.out hub hl0 Hr1.out Hg1.out Hn1.out hr2 hg2⟩
                    exact AllReadyIn.nil
                  exact AllReadyIn.nil
                exact AllReadyIn.nil
              refine AllReadyIn.cons rfl (fun K hK => ?_) ?_
              · go_simp
                refine hK _ _ ?_
                clear hK K
                refine wpAnyIn_ready (rs := [0]) (by kernel_rfl) (by simp) ?_
                refine AllReadyIn.cons rfl (fun K hK => ?_) ?_
                · go_simp
                  refine hK _ _ ?_
                  clear hK K
                  refine wpAnyIn_ready (rs := [5]) (by kernel_rfl) (by simp) ?_
                  refine AllReadyIn.cons rfl (fun K hK => ?_) ?_
                  · rw [if_pos (by rfl)]
                    refine wpIn_append_sees _ (.tmp 19) (.tmp 23) 22 rfl (w.heap.size + 6) 23 i1 (.slice none 0 0) 1 24 Try.underlying22 hj hy0 hy1 hy2 rfl (by decide) (.slice A2 ps.length c2) ps.length (ps.map valP) (by first | rfl | simp [Act.eval, Act.put]) (hr1'.alloc _) _ _ _ _ (by first | rfl | simp [Act.eval, Act.put]) (sees_one w1 _ _) (by simp [Value.oneCell']) (by unfold maxLen; omega) (by omega) (by simp; omega) ?_
                    intro v2 w2 hr2 hg2 _ _
                    obtain ⟨gv, kv, rfl⟩ := ownsRow_succ hr2
                    obtain ⟨y1, y2⟩ := copied2 hX hr1' hg2 Hg1.out
                    refine hK _ _ ?_
                    clear hK K
                    refine wpAnyIn_ready (rs := [6]) (by kernel_rfl) (by simp) ?_
                    refine AllReadyIn.cons rfl (fun K hK => ?_) ?_
                    · go_simp
                      refine hK _ _ ?_
                      clear hK K
                      refine wpAnyIn_done (by kernel_rfl) ?_ _
                      exact ⟨rfl, _, _, _, _, _, _, _, _, rfl, pushed hX HX.out hub hl0 Hr1.out Hg1.out Hn1.out hr2 hg2⟩
                    exact AllReadyIn.nil
                  exact AllReadyIn.nil
                exact AllReadyIn.nil
              exact AllReadyIn.nil
            exact AllReadyIn.nil
          exact AllReadyIn.nil
        refine AllReadyIn.cons rfl (fun K hK => ?_) ?_
        · go_simp
          refine hK _ _ ?_
          clear hK K
          refine wpAnyIn_ready (rs := [0, 1]) (by kernel_rfl) (by simp) ?_
          refine AllReadyIn.cons rfl (fun K hK => ?_) ?_
          · go_simp
            refine hK _ _ ?_
            clear hK K
            refine wpAnyIn_ready (rs := [1]) (by kernel_rfl) (by simp) ?_
            refine AllReadyIn.cons rfl (fun K hK => ?_) ?_
            · go_simp
              refine hK _ _ ?_
              clear hK K
              refine wpAnyIn_ready (rs := [3]) (by kernel_rfl) (by simp) ?_
              refine AllReadyIn.cons rfl (fun K hK => ?_) ?_
              · rw [if_pos (by rfl)]
                refine wpIn_append_sees _ (.tmp 20) (.tmp 21) 23 rfl (w.heap.size + 6) 3 i0 (.int .i64 0) 1 8 Try.underlying23 hi hz0 hz1 hz2 rfl (by decide) (.slice (some ⟨X.heap.size, 0, none⟩) 0 0) 0 [] (by first | rfl | simp [Act.eval, Act.put]) (own_empty X (w.heap.size + 6) 1 3 hbX) _ _ _ _ (by first | rfl | simp [Act.eval, Act.put]) hsee.out (int_cell _) (by unfold maxLen; omega) (by omega) (by simp; omega) ?_
                intro v1 w1 hr1 hg1 _ hn1
                obtain ⟨g1, k1, rfl, hr1', q1, q2, hbw1, Hr1, Hg1, Hn1⟩ := copied hX hbX hl0 hr1 hg1 hn1
                clear hr1 hg1 hn1
                refine hK _ _ ?_
                clear hK K
                refine wpAnyIn_ready (rs := [4]) (by kernel_rfl) (by simp) ?_
                refine AllReadyIn.cons rfl (fun K hK => ?_) ?_
                · go_simp
                  refine hK _ _ ?_
                  clear hK K
                  refine wpAnyIn_ready (rs := [5]) (by kernel_rfl) (by simp) ?_
                  refine AllReadyIn.cons rfl (fun K hK => ?_) ?_
                  · rw [if_pos (by rfl)]
                    refine wpIn_append_sees _ (.tmp 19) (.tmp 23) 22 rfl (w.heap.size + 6) 23 i1 (.slice none 0 0) 1 24 Try.underlying22 hj hy0 hy1 hy2 rfl (by decide) (.slice A2 ps.length c2) ps.length (ps.map valP) (by first | rfl | simp [Act.eval, Act.put]) (hr1'.alloc _) _ _ _ _ (by first | rfl | simp [Act.eval, Act.put]) (sees_one w1 _ _) (by simp [Value.oneCell']) (by unfold maxLen; omega) (by omega) (by simp; omega) ?_
                    intro v2 w2 hr2 hg2 _ _
                    obtain ⟨gv, kv, rfl⟩ := ownsRow_succ hr2
                    obtain ⟨y1, y2⟩ := copied2 hX hr1' hg2 Hg1.out
                    refine hK _ _ ?_
                    clear hK K
                    refine wpAnyIn_ready (rs := [6]) (by kernel_rfl) (by simp) ?_
                    refine AllReadyIn.cons rfl (fun K hK => ?_) ?_
                    · go_simp
                      refine hK _ _ ?_
                      clear hK K
                      refine wpAnyIn_done (by kernel_rfl) ?_ _
                      exact ⟨rfl, _, _, _, _, _, _, _, _, rfl, pushed hX HX.out hub hl0 Hr1.out Hg1.out Hn1.out hr2 hg2⟩
                    exact AllReadyIn.nil
                  exact AllReadyIn.nil
                exact AllReadyIn.nil
              exact AllReadyIn.nil
            exact AllReadyIn.nil
          refine AllReadyIn.cons rfl (fun K hK => ?_) ?_
          · go_simp
            refine hK _ _ ?_
            clear hK K
            refine wpAnyIn_ready (rs := [0, 3]) (by kernel_rfl) (by simp) ?_
            refine AllReadyIn.cons rfl (fun K hK => ?_) ?_
            · go_simp
              refine hK _ _ ?_
              clear hK K
              refine wpAnyIn_ready (rs := [3]) (by kernel_rfl) (by simp) ?_
              refine AllReadyIn.cons rfl (fun K hK => ?_) ?_
              · rw [if_pos (by rfl)]
                refine wpIn_append_sees _ (.tmp 20) (.tmp 21) 23 rfl (w.heap.size + 6) 3 i0 (.int .i64 0) 1 8 Try.underlying23 hi hz0 hz1 hz2 rfl (by decide) (.slice (some ⟨X.heap.size, 0, none⟩) 0 0) 0 [] (by first | rfl | simp [Act.eval, Act.put]) (own_empty X (w.heap.size + 6) 1 3 hbX) _ _ _ _ (by first | rfl | simp [Act.eval, Act.put]) hsee.out (int_cell _) (by unfold maxLen; omega) (by omega) (by simp; omega) ?_
                intro v1 w1 hr1 hg1 _ hn1
                obtain ⟨g1, k1, rfl, hr1', q1, q2, hbw1, Hr1, Hg1, Hn1⟩ := copied hX hbX hl0 hr1 hg1 hn1
                clear hr1 hg1 hn1
                refine hK _ _ ?_
                clear hK K
                refine wpAnyIn_ready (rs := [4]) (by kernel_rfl) (by simp) ?_
                refine AllReadyIn.cons rfl (fun K hK => ?_) ?_
                · go_simp
                  refine hK _ _ ?_
                  clear hK K
                  refine wpAnyIn_ready (rs := [5]) (by kernel_rfl) (by simp) ?_
                  refine AllReadyIn.cons rfl (fun K hK => ?_) ?_
                  · rw [if_pos (by rfl)]
                    refine wpIn_append_sees _ (.tmp 19) (.tmp 23) 22 rfl (w.heap.size + 6) 23 i1 (.slice none 0 0) 1 24 Try.underlying22 hj hy0 hy1 hy2 rfl (by decide) (.slice A2 ps.length c2) ps.length (ps.map valP) (by first | rfl | simp [Act.eval, Act.put]) (hr1'.alloc _) _ _ _ _ (by first | rfl | simp [Act.eval, Act.put]) (sees_one w1 _ _) (by simp [Value.oneCell']) (by unfold maxLen; omega) (by omega) (by simp; omega) ?_
                    intro v2 w2 hr2 hg2 _ _
                    obtain ⟨gv, kv, rfl⟩ := ownsRow_succ hr2
                    obtain ⟨y1, y2⟩ := copied2 hX hr1' hg2 Hg1.out
                    refine hK _ _ ?_
                    clear hK K
                    refine wpAnyIn_ready (rs := [6]) (by kernel_rfl) (by simp) ?_
                    refine AllReadyIn.cons rfl (fun K hK => ?_) ?_
                    · go_simp
                      refine hK _ _ ?_
                      clear hK K
                      refine wpAnyIn_done (by kernel_rfl) ?_ _
                      exact ⟨rfl, _, _, _, _, _, _, _, _, rfl, pushed hX HX.out hub hl0 Hr1.out Hg1.out Hn1.out hr2 hg2⟩
                    exact AllReadyIn.nil
                  exact AllReadyIn.nil
                exact AllReadyIn.nil
              exact AllReadyIn.nil
            refine AllReadyIn.cons rfl (fun K hK => ?_) ?_
            · rw [if_pos (by rfl)]
              refine wpIn_append_sees _ (.tmp 20) (.tmp 21) 23 rfl (w.heap.size + 6) 3 i0 (.int .i64 0) 1 8 Try.underlying23 hi hz0 hz1 hz2 rfl (by decide) (.slice (some ⟨X.heap.size, 0, none⟩) 0 0) 0 [] (by first | rfl | simp [Act.eval, Act.put]) (own_empty X (w.heap.size + 6) 1 3 hbX) _ _ _ _ (by first | rfl | simp [Act.eval, Act.put]) hsee.out (int_cell _) (by unfold maxLen; omega) (by omega) (by simp; omega) ?_
              intro v1 w1 hr1 hg1 _ hn1
              obtain ⟨g1, k1, rfl, hr1', q1, q2, hbw1, Hr1, Hg1, Hn1⟩ := copied hX hbX hl0 hr1 hg1 hn1
              clear hr1 hg1 hn1
              refine hK _ _ ?_
              clear hK K
              refine wpAnyIn_ready (rs := [0, 4]) (by kernel_rfl) (by simp) ?_
              refine AllReadyIn.cons rfl (fun K hK => ?_) ?_
              · go_simp
                refine hK _ _ ?_
                clear hK K
                refine wpAnyIn_ready (rs := [4]) (by kernel_rfl) (by simp) ?_
                refine AllReadyIn.cons rfl (fun K hK => ?_) ?_
                · go_simp
                  refine hK _ _ ?_
                  clear hK K
                  refine wpAnyIn_ready (rs := [5]) (by kernel_rfl) (by simp) ?_
                  refine AllReadyIn.cons rfl (fun K hK => ?_) ?_
                  · rw [if_pos (by rfl)]
                    refine wpIn_append_sees _ (.tmp 19) (.tmp 23) 22 rfl (w.heap.size + 6) 23 i1 (.slice none 0 0) 1 24 Try.underlying22 hj hy0 hy1 hy2 rfl (by decide) (.slice A2 ps.length c2) ps.length (ps.map valP) (by first | rfl | simp [Act.eval, Act.put]) (hr1'.alloc _) _ _ _ _ (by first | rfl | simp [Act.eval, Act.put]) (sees_one w1 _ _) (by simp [Value.oneCell']) (by unfold maxLen; omega) (by omega) (by simp; omega) ?_
                    intro v2 w2 hr2 hg2 _ _
                    obtain ⟨gv, kv, rfl⟩ := ownsRow_succ hr2
                    obtain ⟨y1, y2⟩ := copied2 hX hr1' hg2 Hg1.out
                    refine hK _ _ ?_
                    clear hK K
                    refine wpAnyIn_ready (rs := [6]) (by kernel_rfl) (by simp) ?_
                    refine AllReadyIn.cons rfl (fun K hK => ?_) ?_
                    · go_simp
                      refine hK _ _ ?_
                      clear hK K
                      refine wpAnyIn_done (by kernel_rfl) ?_ _
                      exact ⟨rfl, _, _, _, _, _, _, _, _, rfl, pushed hX HX.out hub hl0 Hr1.out Hg1.out Hn1.out hr2 hg2⟩
                    exact AllReadyIn.nil
                  exact AllReadyIn.nil
                exact AllReadyIn.nil
              refine AllReadyIn.cons rfl (fun K hK => ?_) ?_
              · go_simp
                refine hK _ _ ?_
                clear hK K
                refine wpAnyIn_ready (rs := [0]) (by kernel_rfl) (by simp) ?_
                refine AllReadyIn.cons rfl (fun K hK => ?_) ?_
                · go_simp
                  refine hK _ _ ?_
                  clear hK K
                  refine wpAnyIn_ready (rs := [5]) (by kernel_rfl) (by simp) ?_
                  refine AllReadyIn.cons rfl (fun K hK => ?_) ?_
                  · rw [if_pos (by rfl)]
                    refine wpIn_append_sees _ (.tmp 19) (.tmp 23) 22 rfl (w.heap.size + 6) 23 i1 (.slice none 0 0) 1 24 Try.underlying22 hj hy0 hy1 hy2 rfl (by decide) (.slice A2 ps.length c2) ps.length (ps.map valP) (by first | rfl | simp [Act.eval, Act.put]) (hr1'.alloc _) _ _ _ _ (by first | rfl | simp [Act.eval, Act.put]) (sees_one w1 _ _) (by simp [Value.oneCell']) (by unfold maxLen; omega) (by omega) (by simp; omega) ?_
                    intro v2 w2 hr2 hg2 _ _
                    obtain ⟨gv, kv, rfl⟩ := ownsRow_succ hr2
                    obtain ⟨y1, y2⟩ := copied2 hX hr1' hg2 Hg1.out
                    refine hK _ _ ?_
                    clear hK K
                    refine wpAnyIn_ready (rs := [6]) (by kernel_rfl) (by simp) ?_
                    refine AllReadyIn.cons rfl (fun K hK => ?_) ?_
                    · go_simp
                      refine hK _ _ ?_
                      clear hK K
                      refine wpAnyIn_done (by kernel_rfl) ?_ _
                      exact ⟨rfl, _, _, _, _, _, _, _, _, rfl, pushed hX HX.out hub hl0 Hr1.out Hg1.out Hn1.out hr2 hg2⟩
                    exact AllReadyIn.nil
                  exact AllReadyIn.nil
                exact AllReadyIn.nil
              exact AllReadyIn.nil
            exact AllReadyIn.nil
          exact AllReadyIn.nil
        exact AllReadyIn.nil
      case rest =>
        rintro e a' w' ⟨rfl, s19, s20, s21, s22, s23, s24, gv, kv, rfl, hmv, hbx, hh⟩
        have hvb : ∀ r, (Value.slice A2 ps.length c2).ownBlock = some r → w.heap.size + 6 ≤ r := fun r e => (hrow.lt r e).1
        have n0 : ∀ k, k < w.heap.size + 6 → some k ≠ (Value.slice A2 ps.length c2).ownBlock := fun k hk e => by have := hvb k e.symm; omega
        have d0 := hmv.box b0 (by omega) (n0 _ (by omega))
        have d2 := hmv.box b2 (by omega) (n0 _ (by omega))
        have d3 := hmv.box b3 (by omega) (n0 _ (by omega))
        have hu' := hmv.row hu (by omega) (fun r e e' => by
          obtain ⟨c5, q5, h5⟩ := own_type hrow e
          obtain ⟨c6, q6, h6⟩ := own_type hu e'
          rw [h5] at h6
          exact absurd h6 (by simp))
        rw [List.length_map] at hu'
        obtain ⟨A3, c3, rfl, _⟩ := own_form hu'
        have hbB := hmv.below (N := w.heap.size) (by have := hB.size; exact this) (by omega) (fun r e => by have := hvb r e; omega)
        have hkk := hmv.keeps b1 (fun r e => by obtain ⟨c5, q5, h5⟩ := own_type hrow e; exact ⟨c5, _, q5, h5⟩)
        have hk2 := hmv.keep2 (p := w.heap.size + 4) (q := w.heap.size + 5) (by have := hbX; omega) (by have := hbX; omega) (by omega) (by omega) (fun r e => by have := hvb r e; omega)
        have hs' : w.heap.size + 6 ≤ w'.heap.size := by have := hmv.size; omega
        have hpr : pre.length + 1 ≤ zs.length := by have := Hpl.out; omega
        have cU := d2.cell
        have cV := d2.frozen
        have HH := Lib.hid hh
        clear hh hmv hX HX hsee hub n0 hvb hrow hu b0 b1 b2 b3 cM cP cF g0 g1 hsP
        gi_wp2_with (gi_at_builtin; refine wpListIn_append_sees _ rfl (.tmp 25) (.tmp 28) 23 rfl (w.heap.size + 6) 3 i0 (.int .i64 0) 1 8 Try.underlying23 hi hz0 hz1 hz2 rfl (by decide) (.slice A3 pre.length c3) pre.length _ rfl (hu'.alloc _) _ _ _ _ rfl (sees_one w' _ _) (by simp [Value.oneCell']) (by unfold maxLen; omega) (by omega) (by simp; omega) ?_; intro v' w3 hr3 hg3 _ hn3; obtain ⟨g3, k3, rfl⟩ := ownsRow_succ hr3; have hne3 : ∀ k, k < w.heap.size + 6 → some k ≠ (Value.slice A3 pre.length c3).ownBlock := (fun k hk e => by have := (hu'.lt k e.symm).1; omega); have f2 := (d2.alloc _).kept hg3 (hne3 _ (by omega)); have y1 := f2.cell; have y2 := f2.frozen)
        have f0 := ((d0.alloc _).kept hg3 (hne3 _ (by omega))).other (B' := w.heap.size + 2) (by omega) (.slice (some ⟨g3, 0, none⟩) (pre.length + 1) k3)
        have f1 := ((hbx.alloc _).kept hg3 (hne3 _ (by omega))).other (B' := w.heap.size + 2) (by omega) (.slice (some ⟨g3, 0, none⟩) (pre.length + 1) k3)
        have f3 := ((d3.alloc _).kept hg3 (hne3 _ (by omega))).other (B' := w.heap.size + 2) (by omega) (.slice (some ⟨g3, 0, none⟩) (pre.length + 1) k3)
        have f4 := f2.set (.slice (some ⟨g3, 0, none⟩) (pre.length + 1) k3)
        have hh4 := (held_other HH.out hu' hg3 (by rw [World.size_alloc] at hn3; exact hn3)).keep (grownBy_setCell' w3 (w.heap.size + 2) (.slice (some ⟨g3, 0, none⟩) (pre.length + 1) k3)) (fun r e => by cases e; left; omega)
        have hr4 := own_keep hr3 (grownBy_setCell' w3 (w.heap.size + 2) (.slice (some ⟨g3, 0, none⟩) (pre.length + 1) k3)) (fun r e => by cases e; left; omega)
        have hbel := (((Below.refl w.heap.size w').alloc (by omega) _).grown hg3 (by simp; omega) (fun k e => by have := (hu'.lt k e).1; omega)).setCell (p := ⟨w.heap.size + 2, 0, none⟩) (by simp) (.slice (some ⟨g3, 0, none⟩) (pre.length + 1) k3)
        have hko := ((KeepsOthers.alloc w' _).trans (KeepsOthers.of_grownBy hg3 fun j o ej hj => by obtain ⟨c5, q5, h5⟩ := own_type (hu'.alloc _) ej; rw [h5] at hj; cases hj; rfl)).trans (KeepsOthers.setCell w3 ⟨w.heap.size + 2, 0, none⟩ (.slice (some ⟨g3, 0, none⟩) (pre.length + 1) k3))
        have hkp := ((keep2_grown (p := w.heap.size + 4) (q := w.heap.size + 5) (World.grownBy_alloc w' _ none) (by omega) (by omega) (by simp) (by simp)).trans (keep2_grown hg3 (by simp; omega) (by simp; omega) (hne3 _ (by omega)) (hne3 _ (by omega)))).trans (keep2_grown (grownBy_setCell' w3 (w.heap.size + 2) (.slice (some ⟨g3, 0, none⟩) (pre.length + 1) k3)) (by have := hg3.size; simp at this; omega) (by have := hg3.size; simp at this; omega) (by simp) (by simp))
        have hpl := Hpl.out
        refine ⟨((KeepsOthers.drew W).trans (hkk.trans hko)).from _, hk2.trans hkp, ⟨_, _, f0, f1, f4, f3, ?_, ?_, hB.drew.trans (hbB.trans hbel), ?_⟩, ?_⟩
        · rw [List.map_append, ← Hps1.out]; exact hh4
        · simp only [List.map_append, List.map_cons, List.map_nil, List.length_append, List.length_map, List.length_cons, List.length_nil] at hr4 ⊢; exact hr4
        · have := hbel.size; omega
        · rw [List.length_append]; simp; omega
  case done =>
    rintro D xs W hD hS ⟨hc, hle⟩ hK
    have hL : (xs.map fun k => partL zs m k.1) = (partsL zs m).take most.toNat := by
      have h1 : (xs.map fun k => partL zs m k.1) = partsL zs m := by
        have h2 : (xs.map fun k => partL zs m k.1) = (xs.map Fin.val).map (partL zs m) := by simp
        rw [h2, hS]
        rfl
      rw [h1, List.take_of_length_le (by rw [← h1, List.length_map]; exact hle)]
    rw [hL] at hc
    clear hL hS hle
    obtain ⟨v, u, b0, b1, b2, b3, hh, hu, hb, hw6⟩ := id hc
    obtain ⟨ps, _, hr, _⟩ := id hh
    obtain ⟨Av, cv, rfl, _⟩ := own_form hr
    obtain ⟨Au, cu, rfl, _⟩ := own_form hu
    have z1 : W.drew.cell? ⟨w.heap.size + 1, 0, none⟩ = some (.slice Av ps.length cv) := b1.cell
    have z2 : W.drew.cell? ⟨w.heap.size + 2, 0, none⟩ = some (.slice Au ((partsL zs m).take most.toNat).length cu) := b2.cell
    have z3 : W.drew.cell? ⟨w.heap.size + 3, 0, none⟩ = some (.bool false) := b3.cell
    have y1 : W.drew.frozen? ⟨w.heap.size + 1, 0, none⟩ = false := b1.frozen
    have y2 : W.drew.frozen? ⟨w.heap.size + 2, 0, none⟩ = false := b2.frozen
    have y3 : W.drew.frozen? ⟨w.heap.size + 3, 0, none⟩ = false := b3.frozen
    have s1 : W.drew.setCell ⟨w.heap.size + 1, 0, none⟩ (.slice Av ps.length cv) = W.drew := Boxed.same b1
    have s2 : W.drew.setCell ⟨w.heap.size + 2, 0, none⟩ (.slice Au ((partsL zs m).take most.toNat).length cu) = W.drew := Boxed.same b2
    have s3 : W.drew.setCell ⟨w.heap.size + 3, 0, none⟩ (.bool false) = W.drew := Boxed.same b3
    have Hc : Hid (ChunkInv w most ((partsL zs m).take most.toNat) W.drew) := hc.drew
    have HK : Hid (W.drew.heap[D]? = some (.deferred (some []))) := hK
    clear b0 b1 b2 b3 hh hu hb hr hc hK
    generalize ((partsL zs m).take most.toNat).length = n9 at *
    gi_wp2_with fail
    gi_region
    all_goals gi_wp2
    all_goals exact chunkLeaves Hc.out (by omega) HK.out rfl rfl rfl
  case stop =>
    rintro D cd pre W hD hpre ⟨hc, rfl, h1, h2⟩ hK
    have hL : (pre.dropLast.map fun k => partL zs m k.1) = (partsL zs m).take most.toNat := by
      have h3 : (pre.dropLast.map fun k => partL zs m k.1) = (pre.map Fin.val).dropLast.map (partL zs m) := by rw [← List.map_dropLast, List.map_map]; rfl
      rw [h3, take_of_cut (most := most) hpre (by rw [← List.map_dropLast, List.length_map]; exact h1) (by rw [← List.map_dropLast, List.length_map]; exact h2)]
      rw [List.map_take]
      rfl
    rw [hL] at hc
    clear hL hpre h1 h2
    obtain ⟨v, u, b0, b1, b2, b3, hh, hu, hb, hw6⟩ := id hc
    obtain ⟨ps, _, hr, _⟩ := id hh
    obtain ⟨Av, cv, rfl, _⟩ := own_form hr
    obtain ⟨Au, cu, rfl, _⟩ := own_form hu
    have z1 : W.drew.cell? ⟨w.heap.size + 1, 0, none⟩ = some (.slice Av ps.length cv) := b1.cell
    have z2 : W.drew.cell? ⟨w.heap.size + 2, 0, none⟩ = some (.slice Au ((partsL zs m).take most.toNat).length cu) := b2.cell
    have z3 : W.drew.cell? ⟨w.heap.size + 3, 0, none⟩ = some (.bool false) := b3.cell
    have y1 : W.drew.frozen? ⟨w.heap.size + 1, 0, none⟩ = false := b1.frozen
    have y2 : W.drew.frozen? ⟨w.heap.size + 2, 0, none⟩ = false := b2.frozen
    have y3 : W.drew.frozen? ⟨w.heap.size + 3, 0, none⟩ = false := b3.frozen
    have s1 : W.drew.setCell ⟨w.heap.size + 1, 0, none⟩ (.slice Av ps.length cv) = W.drew := Boxed.same b1
    have s2 : W.drew.setCell ⟨w.heap.size + 2, 0, none⟩ (.slice Au ((partsL zs m).take most.toNat).length cu) = W.drew := Boxed.same b2
    have s3 : W.drew.setCell ⟨w.heap.size + 3, 0, none⟩ (.bool false) = W.drew := Boxed.same b3
    have Hc : Hid (ChunkInv w most ((partsL zs m).take most.toNat) W.drew) := hc.drew
    have HK : Hid (W.drew.heap[D]? = some (.deferred (some []))) := hK
    clear b0 b1 b2 b3 hh hu hb hr hc hK
    generalize ((partsL zs m).take most.toNat).length = n9 at *
    gi_wp2_with fail
    gi_region
    all_goals gi_wp2
    all_goals exact chunkLeaves Hc.out (by omega) HK.out rfl rfl rfl

/-- The deferred closure, of a frame that panics. -/
theorem wcatch_panicking (N : Nat) (x y z : Value) (u : TypeId) (pv : Value) (older : List PanicEntry) (w : World) (h0 : Boxed w N 22 x) (h1 : Boxed w (N + 1) 23 y) (h2 : Boxed w (N + 2) 4 z) :
    CallsD Try.prog 32 #[.pointer (some ⟨N, 0, none⟩), .pointer (some ⟨N + 1, 0, none⟩), .pointer (some ⟨N + 2, 0, none⟩)] (.panicking ({ v := .iface u pv, recovered := false } :: older)) w fun e u' w' =>
      e = .returned (.tuple #[]) ∧ u' = .panicking ({ v := .iface u pv, recovered := true } :: older) ∧ w' = ((w.setCell ⟨N, 0, none⟩ (.slice none 0 0)).setCell ⟨N + 1, 0, none⟩ (.slice none 0 0)).setCell ⟨N + 2, 0, none⟩ (.bool true) := by
  have c0 := h0.cell
  have d0 := h0.frozen
  have h1' := h1.other (B' := N) (by omega) (.slice none 0 0)
  have c1 := h1'.cell
  have d1 := h1'.frozen
  have h2' := (h2.other (B' := N) (by omega) (.slice none 0 0)).other (B' := N + 1) (by omega) (.slice none 0 0)
  have c2 := h2'.cell
  have d2 := h2'.frozen
  refine callsD_of_wpS Try.func32 rfl fun c₀ cs hu => ?_
  apply wpS_seq
  apply wpS_region
  simp [wpOpsS, go_sem, recoverD, hu, Try.ntmps32, Exit.thenS]
  refine wpS_cond (t := true) (by simp [Act.eval, Array.replicate]) ?_
  simp only [if_true]
  apply wpS_seq
  apply wpS_region
  simp [wpOpsS, go_sem, c0, d0, Exit.thenS]
  apply wpS_seq
  apply wpS_region
  simp [wpOpsS, go_sem, c1, d1, Exit.thenS]
  apply wpS_region
  simp [wpOpsS, go_sem, c2, d2, bodyPostS, results, Try.results32]

set_option maxHeartbeats 1000000 in
/-- impl.WalkChunk, of a size below 1 -/
theorem walkChunk_never (w : World) (A : Option Addr) (len c : Nat) (m most : Int) (hm : m < 1) :
    Calls Try.prog 15 #[.slice A len c, .int .i64 m, .int .i64 most] w fun e w' => e = .returned (.tuple #[.slice none 0 0, .slice none 0 0, .bool true]) ∧ Below w.heap.size w w' := by
  have hmf : ∀ (fn : Fn) (first cap : Array Value) (w : World), (Instr.makeFunc fn first cap).run Try.prog w = .ok (.func fn first cap) w := fun _ _ _ _ => rfl
  have b1 := ((Boxed.new (w.alloc (.cells #[.int .i64 most] 3)) 22 (.slice none 0 0)).alloc (.cells #[.slice none 0 0] 23)).alloc (.cells #[.bool false] 4)
  have b2 := (Boxed.new ((w.alloc (.cells #[.int .i64 most] 3)).alloc (.cells #[.slice none 0 0] 22)) 23 (.slice none 0 0)).alloc (.cells #[.bool false] 4)
  have b3 := Boxed.new (((w.alloc (.cells #[.int .i64 most] 3)).alloc (.cells #[.slice none 0 0] 22)).alloc (.cells #[.slice none 0 0] 23)) 4 (.bool false)
  have hb := ((((Below.refl w.heap.size w).alloc (Nat.le_refl _) (.cells #[.int .i64 most] 3)).alloc (by simp) (.cells #[.slice none 0 0] 22)).alloc (by simp; omega) (.cells #[.slice none 0 0] 23)).alloc (by simp; omega) (.cells #[.bool false] 4)
  simp only [World.size_alloc] at b1 b2 b3
  go_enter_defers Try.func15, Try.ntmps15
  go_wp2_with fail
  refine (chunk_panics A len c m hm _).mono ?_
  rintro e w2 ⟨⟨u, pv, rfl⟩, hb2⟩
  have c1 := box_below b1 hb2 (by simp <;> omega)
  have c2 := box_below b2 hb2 (by simp <;> omega)
  have c3 := box_below b3 hb2 (by simp)
  have hB2 := hb.trans (hb2.mono (by simp; omega))
  have e1 := ((c1.set (.slice none 0 0)).other (B' := w.heap.size + 1 + 1) (by omega) (.slice none 0 0)).other (B' := w.heap.size + 1 + 2) (by omega) (.bool true)
  have e2 := ((c2.other (B' := w.heap.size + 1) (by omega) (.slice none 0 0)).set (.slice none 0 0)).other (B' := w.heap.size + 1 + 2) (by omega) (.bool true)
  have e3 := ((c3.other (B' := w.heap.size + 1) (by omega) (.slice none 0 0)).other (B' := w.heap.size + 1 + 1) (by omega) (.slice none 0 0)).set (.bool true)
  have f1 := e1.cell
  have f2 := e2.cell
  have f3 := e3.cell
  have hB3 := ((hB2.setCell (p := ⟨w.heap.size + 1, 0, none⟩) (by simp) (.slice none 0 0)).setCell (p := ⟨w.heap.size + 1 + 1, 0, none⟩) (by simp; omega) (.slice none 0 0)).setCell (p := ⟨w.heap.size + 1 + 2, 0, none⟩) (by simp; omega) (.bool true)
  refine leaves_cons (f := 32) (args := #[.pointer (some ⟨w.heap.size + 1, 0, none⟩), .pointer (some ⟨w.heap.size + 1 + 1, 0, none⟩), .pointer (some ⟨w.heap.size + 1 + 2, 0, none⟩)]) (by simp) (by simp [go_sem]) ?_
  refine (wcatch_panicking (w.heap.size + 1) _ _ _ u pv [] w2 c1 c2 c3).mono ?_
  rintro e u' w3 ⟨rfl, rfl, rfl⟩
  simp [Leaves, settle, results, Try.results15, go_sem, f1, f2, f3]
  exact hB3

end Go.Proofs.Ytmfmpfcgllpflaa
