/-
  slices.order2Ordered, medianOrdered, medianAdjacentOrdered, choosePivotOrdered at float64. No statement is proved here.
-/
import Derived.Test.YtlibakmllogcdaaFloatKit
namespace Go.Proofs.Ytlibakmllogcdaa
open Go.RowKit Go.Shelf Go.Sort Go.Lib

/-- The row holds d, and a counter of exchanges lies beside it. -/
structure Ct (w0 : World) (bk off n : Nat) (d : Array Nat) (sc s : Nat) (w : World) : Prop where
  row : At w0 bk off n d w
  cell : w.cell? ⟨sc, 0, none⟩ = some (.int .i64 s)
  frozen : w.frozen? ⟨sc, 0, none⟩ = false
  new : w0.heap.size ≤ sc
theorem Ct.drewN {w0 w : World} {bk off n sc s : Nat} {d : Array Nat} (h : Ct w0 bk off n d sc s w) (q : Nat) : Ct w0 bk off n d sc s (w.drewN q) := ⟨h.row.drewN q, h.cell, h.frozen, h.new⟩
theorem Ct.bump {w0 w : World} {bk off n sc s : Nat} {d : Array Nat} (h : Ct w0 bk off n d sc s w) (t : Nat) : Ct w0 bk off n d sc t (w.setCell ⟨sc, 0, none⟩ (.int .i64 t)) :=
  ⟨h.row.put sc 0 _ h.new, World.cell?_setCell_same' _ _ _ (by rw [h.cell]; rfl), by rw [World.frozen?_setCell]; exact h.frozen, h.new⟩
def Order2Post (w0 : World) (bk off n : Nat) (d : Array Nat) (sc s a b : Nat) (e : Ending) (w' : World) : Prop :=
  ∃ x y s' : Nat, e = .returned (.tuple #[.int .i64 x, .int .i64 y]) ∧ ((x = a ∧ y = b) ∨ (x = b ∧ y = a)) ∧ s' ≤ s + 1 ∧ Ct w0 bk off n d sc s' w'
set_option maxHeartbeats 4000000 in
set_option maxRecDepth 100000 in
theorem fsOrder2_calls (w0 w : World) (bk off cap n a b sc s : Nat) (d : Array Nat) (C : Ct w0 bk off n d sc s w) (ha : a < n) (hb : b < n) (hs : s ≤ 1000) :
    Calls Try.prog 64 #[.slice (some ⟨bk, off, none⟩) n cap, .int .i64 a, .int .i64 b, .pointer (some ⟨sc, 0, none⟩)] w (Order2Post w0 bk off n d sc s a b) := by
  have mixed : Try.prog.follows .mixedOrders = true := by kernel_rfl
  have hst := storeF
  have C0 := Lib.hid C
  have S1 := Lib.hid C.row
  clear C
  go_enter Try.func64, Try.ntmps64
  go_wp2_with fail
  have c1 := S1.out.cell b hb
  have c2 := S1.out.cell a ha
  cases hlv : ltF d[b]! d[a]! with
  | true =>
    have hl := Lib.hid (lessF_quiet w _ _ hlv)
    clear hlv
    generalize d[b]! = x at c1 hl
    generalize d[a]! = y at c2 hl
    go_quiet ((go_at_call 50; exact hl.out _))
    have C1 := Lib.hid (C0.out.drewN nq)
    clear c1 c2 hl S1 C0
    generalize w.drewN nq = w2 at C1 ⊢
    have cc := C1.out.cell
    have cf := C1.out.frozen
    have C2 := Lib.hid (C1.out.bump (s + 1))
    go_wp2
    go_ret2
    exact ⟨b, a, s + 1, rfl, Or.inr ⟨rfl, rfl⟩, Nat.le_refl _, by have := C2.out; simpa using this⟩
  | false =>
    have hl := Lib.hid (lessF_quiet w _ _ hlv)
    clear hlv
    generalize d[b]! = x at c1 hl
    generalize d[a]! = y at c2 hl
    go_quiet ((go_at_call 50; exact hl.out _))
    have C1 := Lib.hid (C0.out.drewN nq)
    clear c1 c2 hl S1 C0
    generalize w.drewN nq = w2 at C1 ⊢
    go_wp2
    go_ret2
    exact ⟨a, b, s, rfl, Or.inl ⟨rfl, rfl⟩, by omega, C1.out⟩

def MedianPost (w0 : World) (bk off n : Nat) (d : Array Nat) (sc s : Nat) (P : Nat → Prop) (e : Ending) (w' : World) : Prop :=
  ∃ x s' : Nat, e = .returned (.int .i64 x) ∧ P x ∧ s' ≤ s + 3 ∧ Ct w0 bk off n d sc s' w'
set_option maxHeartbeats 4000000 in
set_option maxRecDepth 100000 in
theorem fsMedian_calls (w0 w : World) (bk off cap n a b c sc s : Nat) (A B C' : Int) (d : Array Nat) (C : Ct w0 bk off n d sc s w) (hA : A = a) (hB : B = b) (hC : C' = c) (ha : a < n) (hb : b < n) (hc : c < n) (hs : s ≤ 900) :
    Calls Try.prog 61 #[.slice (some ⟨bk, off, none⟩) n cap, .int .i64 A, .int .i64 B, .int .i64 C', .pointer (some ⟨sc, 0, none⟩)] w (MedianPost w0 bk off n d sc s (fun x => x = a ∨ x = b ∨ x = c)) := by
  subst hA hB hC
  have h1 := Lib.hid (fsOrder2_calls w0 w bk off cap n a b sc s d C ha hb (by omega))
  clear C
  go_enter Try.func61, Try.ntmps61
  go_wp2_with fail
  refine h1.out.mono ?_
  rintro e w1 ⟨x1, y1, s1, rfl, q1, hs1, C1⟩
  have r1 : x1 < n ∧ y1 < n := by omega
  have h2 := Lib.hid (fsOrder2_calls w0 w1 bk off cap n y1 c sc s1 d C1 r1.2 hc (by omega))
  have Q1 := Lib.hid q1
  clear C1 q1
  go_wp2_with fail
  refine h2.out.mono ?_
  rintro e w2 ⟨x2, y2, s2, rfl, q2, hs2, C2⟩
  have r2 : x2 < n ∧ y2 < n := by omega
  have h3 := Lib.hid (fsOrder2_calls w0 w2 bk off cap n x1 x2 sc s2 d C2 r1.1 r2.1 (by omega))
  have Q2 := Lib.hid q2
  clear C2 q2
  go_wp2_with fail
  refine h3.out.mono ?_
  rintro e w3 ⟨x3, y3, s3, rfl, q3, hs3, C3⟩
  have Q3 := Lib.hid q3
  have C4 := Lib.hid C3
  clear C3 q3
  go_wp2
  go_ret
  refine ⟨y3, s3, rfl, ?_, by omega, C4.out⟩
  have := Q1.out
  have := Q2.out
  have := Q3.out
  omega

set_option maxHeartbeats 4000000 in
set_option maxRecDepth 100000 in
theorem fsAdjacent_calls (w0 w : World) (bk off cap n a sc s : Nat) (A : Int) (d : Array Nat) (C : Ct w0 bk off n d sc s w) (hA : A = a) (ha0 : 0 < a) (ha : a + 1 < n) (hs : s ≤ 900) (hn : n < 4611686018427387904) :
    Calls Try.prog 60 #[.slice (some ⟨bk, off, none⟩) n cap, .int .i64 A, .pointer (some ⟨sc, 0, none⟩)] w (MedianPost w0 bk off n d sc s (fun x => x = a - 1 ∨ x = a ∨ x = a + 1)) := by
  subst hA
  have h1 := Lib.hid (fun (A B C' : Int) (hA : A = (a - 1 : Nat)) (hB : B = (a : Nat)) (hC : C' = (a + 1 : Nat)) => fsMedian_calls w0 w bk off cap n (a - 1) a (a + 1) sc s A B C' d C hA hB hC (by omega) (by omega) ha hs)
  clear C
  go_enter Try.func60, Try.ntmps60
  go_wp2_with fail
  refine (h1.out _ _ _ (by omega) (by omega) (by omega)).mono ?_
  rintro e w1 ⟨x1, s1, rfl, q1, hs1, C1⟩
  have Q1 := Lib.hid q1
  have C2 := Lib.hid C1
  clear q1 C1
  go_wp2
  go_ret
  exact ⟨x1, s1, rfl, Q1.out, hs1, C2.out⟩

def PivotPost (w0 : World) (bk off n a b : Nat) (d : Array Nat) (e : Ending) (w' : World) : Prop :=
  ∃ (x : Nat) (h : Int), e = .returned (.tuple #[.int .i64 x, .int .i64 h]) ∧ a ≤ x ∧ x < b ∧ (h = 0 ∨ h = 1 ∨ h = 2) ∧ At w0 bk off n d w'
set_option maxHeartbeats 4000000 in
set_option maxRecDepth 100000 in
theorem fsPivot_calls (w0 w : World) (bk off cap n a b : Nat) (A B : Int) (d : Array Nat) (S : At w0 bk off n d w) (hA : A = a) (hB : B = b) (hab : a + 12 < b) (hb : b ≤ n) (hn : n < 1152921504606846976) :
    Calls Try.prog 47 #[.slice (some ⟨bk, off, none⟩) n cap, .int .i64 A, .int .i64 B] w (PivotPost w0 bk off n a b d) := by
  subst hA hB
  obtain ⟨l, hl⟩ : ∃ l, l = b - a := ⟨_, rfl⟩
  have el : (b : Int) - (a : Int) = (l : Int) := by omega
  obtain ⟨q, hq⟩ : ∃ q, q = l / 4 := ⟨_, rfl⟩
  have eq1 : Int.tdiv (l : Int) 4 = (q : Int) := by rw [Int.tdiv_eq_ediv_of_nonneg (by omega)]; omega
  have lq : 4 * q ≤ l := by omega
  have lq2 : 3 ≤ q := by omega
  have C0 : Hid (Ct w0 bk off n d w.heap.size 0 (w.alloc (.cells #[.int .i64 0] 3))) := Lib.hid ⟨S.alloc _, by simp, by simp, S.le⟩
  have hla : a + l = b := by omega
  have k8 : (8 : Int) ≤ (l : Int) := by omega
  have k8' : 8 ≤ l := by omega
  clear S hq hl
  by_cases h50 : 50 ≤ l
  · have k50 : (50 : Int) ≤ (l : Int) := by omega
    have hi := Lib.hid (fun (A : Int) (hA : A = (a + q : Nat)) => fsAdjacent_calls w0 _ bk off cap n (a + q) _ _ A d C0.out hA (by omega) (by omega) (by omega) (by omega))
    go_enter Try.func47, Try.ntmps47
    go_wp2_with fail
    refine (hi.out _ (by omega)).mono ?_
    rintro e w1 ⟨x1, s1, rfl, q1, hs1, C1⟩
    have hj := Lib.hid (fun (A : Int) (hA : A = (a + q * 2 : Nat)) => fsAdjacent_calls w0 _ bk off cap n (a + q * 2) _ _ A d C1 hA (by omega) (by omega) (by omega) (by omega))
    have r1 : a ≤ x1 ∧ x1 < b := by omega
    clear C1 hi C0 q1
    go_wp2_with fail
    refine (hj.out _ (by omega)).mono ?_
    rintro e w2 ⟨x2, s2, rfl, q2, hs2, C2⟩
    have hk := Lib.hid (fun (A : Int) (hA : A = (a + q * 3 : Nat)) => fsAdjacent_calls w0 _ bk off cap n (a + q * 3) _ _ A d C2 hA (by omega) (by omega) (by omega) (by omega))
    have r2 : a ≤ x2 ∧ x2 < b := by omega
    clear C2 hj q2
    go_wp2_with fail
    refine (hk.out _ (by omega)).mono ?_
    rintro e w3 ⟨x3, s3, rfl, q3, hs3, C3⟩
    have hm := Lib.hid (fsMedian_calls w0 _ bk off cap n x1 x2 x3 _ _ x1 x2 x3 d C3 rfl rfl rfl (by omega) (by omega) (by omega) (by omega))
    have r3 : a ≤ x3 ∧ x3 < b := by omega
    clear C3 hk q3
    go_wp2_with fail
    refine hm.out.mono ?_
    rintro e w4 ⟨x4, s4, rfl, q4, hs4, C4⟩
    have r4 : a ≤ x4 ∧ x4 < b := by omega
    have C5 := Lib.hid C4
    have cc := C4.cell
    clear C4 hm q4
    by_cases z0 : s4 = 0
    · have t1 : ((s4 : Int) == 0) = true := by rw [beq_iff_eq]; omega
      subst z0
      go_wp2
      go_ret2
      exact ⟨x4, 1, rfl, by omega, by omega, by omega, C5.out.row⟩
    · have t1 : ((s4 : Int) == 0) = false := by rw [beq_eq_false_iff_ne]; omega
      by_cases z1 : s4 = 12
      · have t2 : ((s4 : Int) == 12) = true := by rw [beq_iff_eq]; omega
        subst z1
        go_wp2
        go_ret2
        exact ⟨x4, 2, rfl, by omega, by omega, by omega, C5.out.row⟩
      · have t2 : ((s4 : Int) == 12) = false := by rw [beq_eq_false_iff_ne]; omega
        go_wp2
        go_ret2
        exact ⟨x4, 0, rfl, by omega, by omega, by omega, C5.out.row⟩
  · have k50 : ¬ (50 : Int) ≤ (l : Int) := by omega
    have hm := Lib.hid (fun (A B C' : Int) (hA : A = (a + q : Nat)) (hB : B = (a + q * 2 : Nat)) (hC : C' = (a + q * 3 : Nat)) => fsMedian_calls w0 _ bk off cap n (a + q) (a + q * 2) (a + q * 3) _ _ A B C' d C0.out hA hB hC (by omega) (by omega) (by omega) (by omega))
    go_enter Try.func47, Try.ntmps47
    go_wp2_with fail
    refine (hm.out _ _ _ (by omega) (by omega) (by omega)).mono ?_
    rintro e w4 ⟨x4, s4, rfl, q4, hs4, C4⟩
    have r4 : a ≤ x4 ∧ x4 < b := by omega
    have C5 := Lib.hid C4
    have cc := C4.cell
    clear C4 hm q4 C0
    by_cases z0 : s4 = 0
    · have t1 : ((s4 : Int) == 0) = true := by rw [beq_iff_eq]; omega
      subst z0
      go_wp2
      go_ret2
      exact ⟨x4, 1, rfl, by omega, by omega, by omega, C5.out.row⟩
    · have t1 : ((s4 : Int) == 0) = false := by rw [beq_eq_false_iff_ne]; omega
      by_cases z1 : s4 = 12
      · have t2 : ((s4 : Int) == 12) = true := by rw [beq_iff_eq]; omega
        subst z1
        go_wp2
        go_ret2
        exact ⟨x4, 2, rfl, by omega, by omega, by omega, C5.out.row⟩
      · have t2 : ((s4 : Int) == 12) = false := by rw [beq_eq_false_iff_ne]; omega
        go_wp2
        go_ret2
        exact ⟨x4, 0, rfl, by omega, by omega, by omega, C5.out.row⟩

end Go.Proofs.Ytlibakmllogcdaa
