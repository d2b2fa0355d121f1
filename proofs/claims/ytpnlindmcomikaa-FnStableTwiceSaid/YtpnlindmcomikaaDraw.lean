/-
  The contracts of the reader of drawn numbers: what is drawn is some number in its range; the reader's own block alone is turned. No statement is proved here.
-/
import Derived.Test.YtpnlindmcomikaaBase
import Derived.Laws.BitsAllLaws
import Derived.Laws.BitsLemmas
namespace Go.Proofs.Ytpnlindmcomikaa
open Go.RowKit Go.Shelf

/-- A slice of bytes. -/
def SeesB (w : World) (B : Nat) (v : Value) (zs : List Int) : Prop := Sees w B 1 v zs.length (zs.map (Value.int .u8))
theorem SeesB.below {w w' : World} {B : Nat} {v : Value} {zs : List Int} (h : SeesB w B v zs) (hb : Below B w w') : SeesB w' B v zs := Sees.below h hb
theorem SeesB.form {w : World} {B : Nat} {v : Value} {zs : List Int} (h : SeesB w B v zs) : ∃ A c, v = .slice A zs.length c ∧ zs.length ≤ c ∧
    (0 < zs.length → ∃ b off, A = some ⟨b, off, none⟩ ∧ b < B ∧ ∀ j, j < zs.length → w.cell? ⟨b, off + j, none⟩ = some (.int .u8 (zs[j]?.getD 0))) := by
  obtain ⟨_, A, c, e, hc, hs⟩ := h
  refine ⟨A, c, e, hc, fun h0 => ?_⟩
  obtain ⟨b, off, hA, hb, hx⟩ := hs h0
  refine ⟨b, off, hA, hb, fun j hj => (hx j (by omega)).trans ?_⟩
  rw [List.getElem?_map, List.getElem?_eq_getElem hj]
  rfl

/-- Block R is a reader that has drawn p times. -/
def RdAt (w : World) (R p : Nat) : Prop :=
  ∃ bv zs, w.heap[R]? = some (.cells #[bv, .int .i64 (p : Int)] 41 (0, 0)) ∧ SeesB w R bv zs ∧ zs.length ≤ 1048576 ∧ ∀ z ∈ zs, 0 ≤ z ∧ z ≤ 255

/-- The reader has gone on; nothing else that lay has turned. -/
def Gone (R p' : Nat) (w w' : World) : Prop := RdAt w' R p' ∧ w.grownBy w' (some R)

theorem RdAt.lt {w : World} {R p : Nat} (h : RdAt w R p) : R < w.heap.size := by obtain ⟨_, _, h, _⟩ := h; exact (Array.getElem?_eq_some_iff.1 h).1
theorem RdAt.kept {w w' : World} {R p : Nat} {row : Option Nat} (h : RdAt w R p) (hg : w.grownBy w' row) (hr : ∀ g, row = some g → R < g) : RdAt w' R p := by
  have hlt := h.lt
  obtain ⟨bv, zs, hb, hs, hz⟩ := h
  exact ⟨bv, zs, (hg.block R hlt (fun e => by have := hr R e.symm; omega)).trans hb, Sees.keep hs (fun q hq => World.cell?_of_block (hg.block q.block (by omega) (fun e => by have := hr _ e.symm; omega))), hz⟩
theorem RdAt.alloc {w : World} {R p : Nat} (h : RdAt w R p) (o : Obj) : RdAt (w.alloc o) R p := h.kept (World.grownBy_alloc w o none) (by simp)
theorem gone_drewN {R p : Nat} {w w' : World} (h : Gone R p w w') (n : Nat) : Gone R p w (w'.drewN n) := ⟨h.1, h.2.os, h.2.tape, h.2.output, h.2.size, h.2.block⟩
theorem grown_trans {a b c : World} {R : Nat} (h : a.grownBy b (some R)) (k : b.grownBy c (some R)) : a.grownBy c (some R) :=
  ⟨k.os.trans h.os, k.tape.trans h.tape, k.output.trans h.output, Nat.le_trans h.size k.size, fun i hi hne => (k.block i (Nat.lt_of_lt_of_le hi h.size) hne).trans (h.block i hi hne)⟩
theorem grown_alloc {a b : World} {R : Nat} (h : a.grownBy b (some R)) (o : Obj) : a.grownBy (b.alloc o) (some R) := grown_trans h (World.grownBy_alloc b o _)
theorem below_gone {a w w' : World} {R B : Nat} (h : Below B a w) (hg : w.grownBy w' (some R)) (hB : B ≤ R) (hs : B ≤ w.heap.size) : Below B a w' := h.grown hg hs (fun k e => by cases e; exact hB)

/-- The store of the count. -/
theorem RdAt.store {w : World} {R p : Nat} (h : RdAt w R p) (p' : Nat) : Gone R p' w (w.setCell ⟨R, 1, none⟩ (.int .i64 (p' : Int))) := by
  obtain ⟨bv, zs, hb, hs, hz⟩ := h
  obtain ⟨hlt, hb'⟩ := Array.getElem?_eq_some_iff.1 hb
  refine ⟨⟨bv, zs, ?_, Sees.keep hs (fun q hq => World.cell?_setCell_other w ⟨R, 1, none⟩ q _ (fun e => by subst e; exact absurd hq (Nat.lt_irrefl _))), hz⟩, ⟨rfl, rfl, rfl, by simp [World.setCell], fun k _ hk => Below.heap_setCell _ _ _ k (fun e => hk (by rw [e]))⟩⟩
  show (w.heap.modify R _)[R]? = _
  rw [Array.getElem?_eq_getElem (by rw [Array.size_modify]; exact hlt), Array.getElem_modify_self, hb']
  rfl

theorem RdAt.cells {w : World} {R p : Nat} (h : RdAt w R p) : ∃ A c, ∃ zs : List Int, w.cell? ⟨R, 0, none⟩ = some (.slice A zs.length c) ∧ w.cell? ⟨R, 1, none⟩ = some (.int .i64 (p : Int)) ∧ w.frozen? ⟨R, 1, none⟩ = false ∧ zs.length ≤ 1048576 ∧
    (0 < zs.length → ∃ b off, A = some ⟨b, off, none⟩ ∧ b < R ∧ ∀ j, j < zs.length → ∃ z, w.cell? ⟨b, off + j, none⟩ = some (.int .u8 z) ∧ 0 ≤ z ∧ z ≤ 255) := by
  obtain ⟨bv, zs, hb, hs, hl, hz⟩ := h
  obtain ⟨A, c, rfl, _, hx⟩ := hs.form
  refine ⟨A, c, zs, by simp [World.cell?, hb], by simp [World.cell?, hb], by simp [World.frozen?, hb], hl, fun h0 => ?_⟩
  obtain ⟨b, off, hA, hbR, hc⟩ := hx h0
  refine ⟨b, off, hA, hbR, fun j hj => ⟨_, hc j hj, ?_⟩⟩
  rw [List.getElem?_eq_getElem hj]
  exact hz _ (List.getElem_mem hj)

theorem ofInt_nat (a : Nat) (ha : a < 9223372036854775808) : (BitVec.ofInt 64 (a : Int)).toNat = a := by
  rw [BitVec.ofInt_natCast, BitVec.toNat_ofNat]; exact Nat.mod_eq_of_lt (by omega)
/-- Of two numbers that are not below 0 the exclusive or is one, too. -/
theorem xor_some (x y : Int) (hx : 0 ≤ x) (hx' : x < 4611686018427387904) (hy : 0 ≤ y) (hy' : y < 4611686018427387904) : ∃ z : Int, bits .xor .i64 x y = z ∧ 0 ≤ z ∧ z ≤ 4611686018427387904 := by
  obtain ⟨a, rfl⟩ := Int.eq_ofNat_of_zero_le hx
  obtain ⟨b, rfl⟩ := Int.eq_ofNat_of_zero_le hy
  have hlt : a ^^^ b < 2 ^ 62 := Nat.xor_lt_two_pow (by omega) (by omega)
  refine ⟨((a ^^^ b : Nat) : Int), ?_, by omega, by omega⟩
  show IntKind.i64.wrap ((BitVec.ofInt 64 (a : Int) ^^^ BitVec.ofInt 64 (b : Int)).toNat : Int) = _
  rw [BitVec.toNat_xor, ofInt_nat a (by omega), ofInt_nat b (by omega), IntKind.wrap_i64]
  omega

/-- What is drawn: a number from 0 up, below n where n is not below 1. -/
def PickPost (R p : Nat) (n : Int) (w : World) (e : Ending) (w' : World) : Prop := ∃ r : Int, e = .returned (.int .i64 r) ∧ 0 ≤ r ∧ r < max n 1 ∧ Gone R (p + 1) w w'

set_option maxRecDepth 100000 in
set_option maxHeartbeats 1000000 in
/-- (*rd).pick -/
theorem pick_calls (w : World) (R p : Nat) (n : Int) (h : RdAt w R p) (hp : p ≤ 1000000000) (hn : n ≤ 1000000000000000000) :
    Calls Try.prog 30 #[.pointer (some ⟨R, 0, none⟩), .int .i64 n] w (PickPost R p n w) := by
  have hgone := h.store (p + 1)
  rw [show (((p + 1 : Nat) : Int)) = (p : Int) + 1 by omega] at hgone
  obtain ⟨A, c, zs, c0, c1, f1, hl, hx⟩ := hgone.1.cells
  obtain ⟨A', c', zs', d0, d1, g1, _, _⟩ := h.cells
  rw [show (((p + 1 : Nat) : Int)) = (p : Int) + 1 by omega] at c1
  by_cases hn1 : n < 1
  · have t1 : decide (n < 1) = true := by simpa using hn1
    go_enter Try.func30, Try.ntmps30
    go_wp2
    go_ret
    exact ⟨0, rfl, by omega, by omega, hgone⟩
  · have t1 : decide (n < 1) = false := by simpa using hn1
    have hn' : 0 < n := by omega
    by_cases h0 : zs.length = 0
    · have t2 : ((zs.length : Int) == 0) = true := by rw [h0]; rfl
      clear h0
      go_enter Try.func30, Try.ntmps30
      go_wp2
      go_ret
      exact ⟨0, rfl, by omega, by omega, hgone⟩
    · have t2 : ((zs.length : Int) == 0) = false := by rw [beq_eq_false_iff_ne]; omega
      have t2' : 0 < zs.length := by omega
      obtain ⟨b, off, rfl, hbR, hcs⟩ := hx t2'
      clear hx h0
      by_cases hk : p < zs.length
      · obtain ⟨z, hz, hz0, hz1⟩ := hcs p hk
        clear hcs
        go_enter Try.func30, Try.ntmps30
        go_wp2
        go_ret
        exact ⟨z % n, rfl, Int.emod_nonneg _ (by omega), by have := Int.emod_lt_of_pos z hn'; omega, hgone⟩
      · have m1 : p % zs.length < zs.length := Nat.mod_lt _ t2'
        have m2 : (p * 7 + 3) % zs.length < zs.length := Nat.mod_lt _ t2'
        obtain ⟨z, hz, hz0, hz1⟩ := hcs _ m1
        obtain ⟨y, hy, hy0, hy1⟩ := hcs _ m2
        clear hcs
        have r1 : ((p : Int)).tmod (zs.length : Int) = ((p % zs.length : Nat) : Int) := by rw [Int.tmod_eq_emod_of_nonneg (by omega)]; rfl
        have r2 : ((p : Int) * 7 + 3).tmod (zs.length : Int) = (((p * 7 + 3) % zs.length : Nat) : Int) := by
          rw [Int.tmod_eq_emod_of_nonneg (by omega), show (p : Int) * 7 + 3 = ((p * 7 + 3 : Nat) : Int) by omega]; rfl
        have r3 : ((p : Int)).tdiv (zs.length : Int) = ((p / zs.length : Nat) : Int) := by rw [Int.tdiv_eq_ediv_of_nonneg (by omega)]; rfl
        have hd : p / zs.length ≤ p := Nat.div_le_self _ _
        generalize p % zs.length = i1 at m1 hz r1
        generalize (p * 7 + 3) % zs.length = i2 at m2 hy r2
        generalize p / zs.length = d at hd r3
        have e1 : IntKind.i64.wrap z = z := IntWalk.i64_in _ (by omega)
        have e2 : IntKind.i64.wrap y = y := IntWalk.i64_in _ (by omega)
        have e3 : IntKind.i64.wrap (z * 131) = z * 131 := IntWalk.i64_in _ (by omega)
        have e4 : IntKind.i64.wrap (y * 1117) = y * 1117 := IntWalk.i64_in _ (by omega)
        have e5 : IntKind.i64.wrap ((p : Int) * 7) = (p : Int) * 7 := IntWalk.i64_in _ (by omega)
        have e6 : IntKind.i64.wrap ((p : Int) * 7 + 3) = (p : Int) * 7 + 3 := IntWalk.i64_in _ (by omega)
        have e7 : IntKind.i64.wrap ((p : Int) * 29) = (p : Int) * 29 := IntWalk.i64_in _ (by omega)
        have e8 : IntKind.i64.wrap ((d : Int) * 53) = (d : Int) * 53 := IntWalk.i64_in _ (by omega)
        have e9 : IntKind.i64.wrap (z * 131 + y * 1117) = z * 131 + y * 1117 := IntWalk.i64_in _ (by omega)
        have e10 : IntKind.i64.wrap (z * 131 + y * 1117 + (p : Int) * 29) = z * 131 + y * 1117 + (p : Int) * 29 := IntWalk.i64_in _ (by omega)
        have e11 : IntKind.i64.wrap (z * 131 + y * 1117 + (p : Int) * 29 + (d : Int) * 53) = z * 131 + y * 1117 + (p : Int) * 29 + (d : Int) * 53 := IntWalk.i64_in _ (by omega)
        have j1 : (i1 : Int) < (zs.length : Int) := by omega
        have j2 : (i2 : Int) < (zs.length : Int) := by omega
        go_enter Try.func30, Try.ntmps30
        go_wp2
        go_quiet (fail)
        clear e1 e2 e3 e4 e5 e6 e7 e8 e9 e10 e11 r1 r2 r3
        have hx0 : 0 ≤ z * 131 + y * 1117 + (p : Int) * 29 + (d : Int) * 53 := by omega
        have hx1 : z * 131 + y * 1117 + (p : Int) * 29 + (d : Int) * 53 < 1000000000000 := by omega
        generalize z * 131 + y * 1117 + (p : Int) * 29 + (d : Int) * 53 = x at hx0 hx1 ⊢
        obtain ⟨u, hu, hu0, hu1⟩ := xor_some x (x / 64) hx0 (by omega) (by omega) (by omega)
        go_wp2
        go_ret
        exact ⟨u % n, rfl, Int.emod_nonneg _ (by omega), by have := Int.emod_lt_of_pos u hn'; omega, gone_drewN hgone _⟩

theorem Gone.own {R p base sz n : Nat} {w w' : World} {e : TypeId} {v : Value} {xs : List Value} (h : Gone R p w w') (hr : w.ownsRow base e sz v n xs) (hb : R < base) : w'.ownsRow base e sz v n xs :=
  hr.kept h.2 (by
    rcases hv : v.ownBlock with _ | g
    · exact .inl rfl
    · refine .inr fun e => ?_
      have := (hr.lt g hv).1
      injection e with e
      omega)

theorem Gone.trans {R p p' : Nat} {a b c : World} (h : Gone R p a b) (k : Gone R p' b c) : Gone R p' a c := ⟨k.1, grown_trans h.2 k.2⟩
theorem Gone.alloc {R p : Nat} {a b : World} (h : Gone R p a b) (o : Obj) : Gone R p a (b.alloc o) := ⟨h.1.alloc o, grown_alloc h.2 o⟩

/-- One of some numbers. -/
def OnePost (R p : Nat) (zs : List Int) (w : World) (e : Ending) (w' : World) : Prop := ∃ x : Int, e = .returned (.int .i64 x) ∧ x ∈ zs ∧ Gone R (p + 1) w w'

set_option maxHeartbeats 400000 in
/-- (*rd).one -/
theorem one_calls (w : World) (R p : Nat) (lv : Value) (zs : List Int) (h : RdAt w R p) (hp : p ≤ 1000000000) (hown : w.ownsRow (R + 1) 3 1 lv zs.length (zs.map (Value.int .i64))) (h0 : 0 < zs.length) (hm : zs.length ≤ 1000) :
    Calls Try.prog 28 #[.pointer (some ⟨R, 0, none⟩), lv] w (OnePost R p zs w) := by
  obtain ⟨g, c, rfl⟩ := own_pos hown h0
  go_enter Try.func28, Try.ntmps28
  go_wp2_with fail
  refine (pick_calls w R p _ h hp (by omega)).mono ?_
  rintro e w1 ⟨r, rfl, hr0, hr1, hg⟩
  obtain ⟨j, rfl⟩ := Int.eq_ofNat_of_zero_le hr0
  have hj : j < zs.length := by omega
  have hc := own_int (hg.own hown (by omega)) j hj
  rw [List.getElem?_eq_getElem hj] at hc
  simp only [Option.getD_some] at hc
  have hmem : zs[j] ∈ zs := List.getElem_mem hj
  generalize zs[j] = x at hc hmem
  clear hr1
  go_wp2
  go_ret
  exact ⟨x, rfl, hmem, hg⟩

/-- Some number, drawn by at most k draws. -/
def NumPost (R p k : Nat) (w : World) (e : Ending) (w' : World) : Prop := ∃ (x : Int) (p' : Nat), e = .returned (.int .i64 x) ∧ (Lit.int .i64 x).wf = true ∧ p' ≤ p + k ∧ Gone R p' w w'

theorem wf_small {x : Int} (h0 : -1000000000000000000 ≤ x) (h1 : x ≤ 1000000000000000000) : (Lit.int .i64 x).wf = true := WalkArith.wf_i64 (by omega)

/-- A list literal. -/
theorem own_lit (w : World) (base : Nat) (zs : List Int) (hb : base ≤ w.heap.size) (hm : zs.length ≤ 1000) :
    (w.alloc (.cells (zs.map (Value.int .i64)).toArray 3)).ownsRow base 3 1 (.slice (some ⟨w.heap.size, 0, none⟩) zs.length zs.length) zs.length (zs.map (Value.int .i64)) := by
  have := World.ownsRow_lit (base := base) (e := 3) (size := 1) w (zs.map (Value.int .i64)).toArray zs.length hb (by unfold maxLen; omega) (by simp)
  simpa using this

def bigs : List Int := [9223372036854775807, -9223372036854775808, 1099511627776, -1099511627776, 100, -100]
theorem bigs_wf : ∀ x ∈ bigs, (Lit.int .i64 x).wf = true := by
  have : bigs.all (fun x => (Lit.int .i64 x).wf) = true := by decide +kernel
  exact List.all_eq_true.1 this

set_option maxHeartbeats 400000 in
/-- spec.aNumber -/
theorem aNumber_calls (w : World) (R p : Nat) (h : RdAt w R p) (hp : p ≤ 999999999) :
    Calls Try.prog 29 #[.pointer (some ⟨R, 0, none⟩)] w (NumPost R p 2 w) := by
  go_enter Try.func29, Try.ntmps29
  go_wp2_with fail
  refine (pick_calls w R p _ h (by omega) (by omega)).mono ?_
  rintro e w1 ⟨r, rfl, hr0, hr1, hg⟩
  have hlt := hg.1.lt
  by_cases h0 : r = 0
  · have t : (r == 0) = true := by rw [beq_iff_eq]; exact h0
    subst h0
    go_wp2_with fail
    have hl := own_lit w1 (R + 1) bigs (by omega) (by decide)
    refine (one_calls _ R (p + 1) _ bigs (hg.1.alloc _) (by omega) hl (by decide) (by decide)).mono ?_
    rintro e w2 ⟨x, rfl, hx, hg2⟩
    have hwf := bigs_wf x hx
    clear hl hx
    go_wp2_with fail
    go_ret
    exact ⟨x, p + 2, rfl, hwf, Nat.le_refl _, (hg.alloc _).trans hg2⟩
  · have t : (r == 0) = false := by rw [beq_eq_false_iff_ne]; exact h0
    go_wp2_with fail
    refine (pick_calls w1 R (p + 1) _ hg.1 (by omega) (by omega)).mono ?_
    rintro e w2 ⟨x, rfl, hx0, hx1, hg2⟩
    go_wp2_with fail
    go_ret
    exact ⟨x - 3, p + 2, rfl, wf_small (by omega) (by omega), Nat.le_refl _, hg.trans hg2⟩

/-- A list of numbers, at most 47 of them, drawn by at most k draws. -/
def ListPost (R p k : Nat) (w : World) (e : Ending) (w' : World) : Prop :=
  ∃ (v : Value) (zs : List Int) (p' : Nat), e = .returned v ∧ w'.ownsRow w.heap.size 3 1 v zs.length (zs.map (Value.int .i64)) ∧ zs.length ≤ 47 ∧ (∀ z ∈ zs, (Lit.int .i64 z).wf = true) ∧ p' ≤ p + k ∧ Gone R p' w w'

def sizes : List Int := [4, 3, 6, 2, 8, 1, 0, 17, 26, 47]
theorem sizes_le : ∀ x ∈ sizes, 0 ≤ x ∧ x ≤ 47 := by decide

set_option maxHeartbeats 1000000 in
/-- spec.aList -/
theorem aList_calls (w : World) (R p : Nat) (h : RdAt w R p) (hp : p ≤ 999990000) :
    Calls Try.prog 19 #[.pointer (some ⟨R, 0, none⟩)] w (ListPost R p 100 w) := by
  obtain ⟨i0, hi, hz0, hz1, hz2⟩ := info_parts Try.infoInt
  have hlt := h.lt
  have hown0 := own_empty w w.heap.size 1 3 (Nat.le_refl _)
  go_enter Try.func19, Try.ntmps19
  go_wp2_with fail
  have hl := own_lit (w.alloc (.cells #[] 3)) (R + 1) sizes (by simp; omega) (by decide)
  refine (one_calls _ R p _ sizes ((h.alloc _).alloc _) (by omega) (by simpa [sizes] using hl) (by decide) (by decide)).mono ?_
  rintro e w1 ⟨N, rfl, hN, hg⟩
  obtain ⟨hN0, hN1⟩ := sizes_le N hN
  obtain ⟨m, rfl⟩ := Int.eq_ofNat_of_zero_le hN0
  have hown1 := hg.own (hown0.alloc _) (by omega)
  have hg1 : Gone R (p + 1) w w1 := ⟨hg.1, grown_trans (grown_alloc (World.grownBy_alloc w _ _) _) hg.2⟩
  clear hl hown0 hN hg hN0
  go_wp2_with fail
  go_loopw [3, 4] (fun v i wr => ∃ (k p' : Nat) (zs : List Int), k ≤ m ∧ i = .int .i64 k ∧ zs.length = m - k ∧ wr.ownsRow w.heap.size 3 1 v zs.length (zs.map (Value.int .i64)) ∧ (∀ z ∈ zs, (Lit.int .i64 z).wf = true) ∧ p' ≤ p + 1 + 2 * (m - k) ∧ Gone R p' w wr) (fun _ i _ => (intOf i).toNat)
  case atStart => exact ⟨m, p + 1, [], Nat.le_refl _, rfl, by simp, hown1, by simp, by omega, hg1⟩
  case round =>
    obtain ⟨k, p', zs, hk, rfl, hzl, hrow, hwf, hpp, hgr⟩ := hrel
    have Hzl := Lib.hid hzl
    have hzl' : zs.length ≤ 47 := by omega
    have Hwf := Lib.hid hwf
    clear hown1 hg1 hzl hwf
    obtain ⟨A', c', rfl, _⟩ := own_form hrow
    have hws := hgr.2.size
    by_cases hk0 : 0 < k
    · go_wp2_with fail
      refine (aNumber_calls wr R p' hgr.1 (by omega)).mono ?_
      rintro e w2 ⟨x, q, rfl, hxw, hq, hg2⟩
      have hrow2 := hg2.own hrow (by omega)
      have hs2 := hg2.2.size
      go_wp2_with (at_builtin; refine wpList_append_own _ rfl _ _ 23 rfl w.heap.size 3 i0 (.int .i64 0) 1 8 Try.underlying23 hi hz0 hz1 hz2 rfl (by decide) _ _ _ rfl (hrow2.alloc _) ⟨w2.heap.size, 0, none⟩ 1 1 [.int .i64 x] rfl rfl (cell_one_new _ _ _) (by simp [Value.oneCell']) (by unfold maxLen; omega) (by omega) (by simp; omega) ?_; intro v' w3 hown' hgrow _)
      have hg3 : Gone R q w w3 := by
        have ha := (hgr.trans hg2).alloc (.cells #[.int .i64 x] 3)
        have hlow : ∀ g, (Value.slice A' zs.length c').ownBlock = some g → R < g := fun g e => by have := ((hrow2.alloc (.cells #[.int .i64 x] 3)).lt g e).1; omega
        refine ⟨ha.1.kept hgrow hlow, ?_⟩
        have h1 := ha.2
        refine ⟨hgrow.os.trans h1.os, hgrow.tape.trans h1.tape, hgrow.output.trans h1.output, Nat.le_trans h1.size hgrow.size, fun i hi' hne => (hgrow.block i (Nat.lt_of_lt_of_le hi' h1.size) (fun e => ?_)).trans (h1.block i hi' hne)⟩
        have := ((hrow2.alloc (.cells #[.int .i64 x] 3)).lt i e.symm).1
        omega
      go_roundw
      case rel =>
        exact ⟨k - 1, q, zs ++ [x], by omega, by rw [show ((k - 1 : Nat) : Int) = (k : Int) - 1 by omega], by rw [List.length_append, Hzl.out]; simp; omega, by simpa using hown',
          (fun z hz => by
            rcases List.mem_append.1 hz with hz | hz
            · exact Hwf.out z hz
            · rw [List.mem_singleton.1 hz]; exact hxw), by omega, hg3⟩
      case measure => simp [intOf]; omega
    · obtain rfl : k = 0 := by omega
      go_wp2_with fail
      go_ret
      exact ⟨_, zs, p', rfl, hrow, hzl', Hwf.out, by omega, hgr⟩

end Go.Proofs.Ytpnlindmcomikaa
