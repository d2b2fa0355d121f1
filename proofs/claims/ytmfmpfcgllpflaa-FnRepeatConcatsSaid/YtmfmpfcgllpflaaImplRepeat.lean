/-
  The contracts of impl.Repeat, spec.Repeat and spec.TooOften. No statement is proved here.
-/
import Derived.Test.YtmfmpfcgllpflaaRepeat
import Derived.Recover
namespace Go.Proofs.Ytmfmpfcgllpflaa
open Go.RowKit Go.Shelf

/-- The boxes of four named results. -/
def Four (W : World) (n : Nat) (v0 v1 v2 v3 : Value) : Prop := Boxed W n 23 v0 ∧ Boxed W (n + 1) 3 v1 ∧ Boxed W (n + 2) 4 v2 ∧ Boxed W (n + 3) 4 v3
theorem Four.new (w : World) (v0 v1 v2 v3 : Value) : Four ((((w.alloc (.cells #[v0] 23)).alloc (.cells #[v1] 3)).alloc (.cells #[v2] 4)).alloc (.cells #[v3] 4)) w.heap.size v0 v1 v2 v3 := by
  have b0 := (((Boxed.new w 23 v0).alloc (.cells #[v1] 3)).alloc (.cells #[v2] 4)).alloc (.cells #[v3] 4)
  have b1 := ((Boxed.new (w.alloc (.cells #[v0] 23)) 3 v1).alloc (.cells #[v2] 4)).alloc (.cells #[v3] 4)
  have b2 := (Boxed.new ((w.alloc (.cells #[v0] 23)).alloc (.cells #[v1] 3)) 4 v2).alloc (.cells #[v3] 4)
  have b3 := Boxed.new (((w.alloc (.cells #[v0] 23)).alloc (.cells #[v1] 3)).alloc (.cells #[v2] 4)) 4 v3
  simp only [World.size_alloc] at b1 b2 b3
  exact ⟨b0, b1, b2, b3⟩
theorem Four.below {W W' : World} {n : Nat} {v0 v1 v2 v3 : Value} (h : Four W n v0 v1 v2 v3) {n₀ : Nat} (hb : Below n₀ W W') (hn : n + 4 ≤ n₀) : Four W' n v0 v1 v2 v3 :=
  ⟨box_below h.1 hb (by omega), box_below h.2.1 hb (by omega), box_below h.2.2.1 hb (by omega), box_below h.2.2.2 hb (by omega)⟩
/-- The world behind four stores. -/
def set4 (W : World) (n : Nat) (u0 u1 u2 u3 : Value) : World := (((W.setCell ⟨n, 0, none⟩ u0).setCell ⟨n + 1, 0, none⟩ u1).setCell ⟨n + 2, 0, none⟩ u2).setCell ⟨n + 3, 0, none⟩ u3
theorem Four.set {W : World} {n : Nat} {v0 v1 v2 v3 : Value} (h : Four W n v0 v1 v2 v3) (u0 u1 u2 u3 : Value) : Four (set4 W n u0 u1 u2 u3) n u0 u1 u2 u3 := by
  obtain ⟨b0, b1, b2, b3⟩ := h
  refine ⟨(((b0.set u0).other (B' := n + 1) (by omega) u1).other (B' := n + 2) (by omega) u2).other (B' := n + 3) (by omega) u3, ?_, ?_, ?_⟩
  · exact (((b1.other (B' := n) (by omega) u0).set u1).other (B' := n + 2) (by omega) u2).other (B' := n + 3) (by omega) u3
  · exact (((b2.other (B' := n) (by omega) u0).other (B' := n + 1) (by omega) u1).set u2).other (B' := n + 3) (by omega) u3
  · exact (((b3.other (B' := n) (by omega) u0).other (B' := n + 1) (by omega) u1).other (B' := n + 2) (by omega) u2).set u3
theorem Four.stores {W : World} {n : Nat} {v0 v1 v2 v3 : Value} (h : Four W n v0 v1 v2 v3) (u0 u1 u2 : Value) :
    (W.cell? ⟨n, 0, none⟩ = some v0 ∧ W.frozen? ⟨n, 0, none⟩ = false) ∧
    ((W.setCell ⟨n, 0, none⟩ u0).cell? ⟨n + 1, 0, none⟩ = some v1 ∧ (W.setCell ⟨n, 0, none⟩ u0).frozen? ⟨n + 1, 0, none⟩ = false) ∧
    (((W.setCell ⟨n, 0, none⟩ u0).setCell ⟨n + 1, 0, none⟩ u1).cell? ⟨n + 2, 0, none⟩ = some v2 ∧ ((W.setCell ⟨n, 0, none⟩ u0).setCell ⟨n + 1, 0, none⟩ u1).frozen? ⟨n + 2, 0, none⟩ = false) ∧
    ((((W.setCell ⟨n, 0, none⟩ u0).setCell ⟨n + 1, 0, none⟩ u1).setCell ⟨n + 2, 0, none⟩ u2).cell? ⟨n + 3, 0, none⟩ = some v3 ∧ (((W.setCell ⟨n, 0, none⟩ u0).setCell ⟨n + 1, 0, none⟩ u1).setCell ⟨n + 2, 0, none⟩ u2).frozen? ⟨n + 3, 0, none⟩ = false) := by
  obtain ⟨b0, b1, b2, b3⟩ := h
  have c1 := b1.other (B' := n) (by omega) u0
  have c2 := (b2.other (B' := n) (by omega) u0).other (B' := n + 1) (by omega) u1
  have c3 := ((b3.other (B' := n) (by omega) u0).other (B' := n + 1) (by omega) u1).other (B' := n + 2) (by omega) u2
  exact ⟨⟨b0.cell, b0.frozen⟩, ⟨c1.cell, c1.frozen⟩, ⟨c2.cell, c2.frozen⟩, ⟨c3.cell, c3.frozen⟩⟩
theorem below_set4 {w W : World} {n : Nat} (hb : Below w.heap.size w W) (hn : w.heap.size ≤ n) (u0 u1 u2 u3 : Value) : Below w.heap.size w (set4 W n u0 u1 u2 u3) := by
  have hs := hb.size
  have g0 := hb.grown (grownBy_setCell' W n u0) hs (fun k e => by cases e; omega)
  have g1 := g0.grown (grownBy_setCell' _ (n + 1) u1) g0.size (fun k e => by cases e; omega)
  have g2 := g1.grown (grownBy_setCell' _ (n + 2) u2) g1.size (fun k e => by cases e; omega)
  exact g2.grown (grownBy_setCell' _ (n + 3) u3) g2.size (fun k e => by cases e; omega)
theorem own_set4 {W : World} {base n g k c : Nat} {e : TypeId} {xs : List Value} (h : W.ownsRow base e 1 (.slice (some ⟨g, 0, none⟩) k c) k xs) (hn : n + 4 ≤ g) (u0 u1 u2 u3 : Value) : (set4 W n u0 u1 u2 u3).ownsRow base e 1 (.slice (some ⟨g, 0, none⟩) k c) k xs := by
  have n0 : ∀ m, m < g → (Value.slice (some ⟨g, 0, none⟩) k c).ownBlock ≠ some m := fun m hm e => by simp [Value.ownBlock] at e; omega
  have h0 := h.kept (grownBy_setCell' W n u0) (.inr (n0 n (by omega)))
  have h1 := h0.kept (grownBy_setCell' _ (n + 1) u1) (.inr (n0 (n + 1) (by omega)))
  have h2 := h1.kept (grownBy_setCell' _ (n + 2) u2) (.inr (n0 (n + 2) (by omega)))
  exact h2.kept (grownBy_setCell' _ (n + 3) u3) (.inr (n0 (n + 3) (by omega)))

section
variable (n : Nat)
/-- The deferred closure, of a frame that panics. -/
theorem rcatch_panicking (v0 v1 v2 v3 : Value) (u : TypeId) (pv : Value) (older : List PanicEntry) (w : World) (h : Four w n v0 v1 v2 v3) :
    CallsD Try.prog 40 #[.pointer (some ⟨n, 0, none⟩), .pointer (some ⟨n + 1, 0, none⟩), .pointer (some ⟨n + 2, 0, none⟩), .pointer (some ⟨n + 3, 0, none⟩)] (.panicking ({ v := .iface u pv, recovered := false } :: older)) w fun e u' w' =>
      e = .returned (.tuple #[]) ∧ u' = .panicking ({ v := .iface u pv, recovered := true } :: older) ∧ w' = set4 w n (.slice none 0 0) (.int .i64 0) (.bool false) (.bool true) := by
  obtain ⟨⟨a0, a1⟩, ⟨a2, a3⟩, ⟨a4, a5⟩, ⟨a6, a7⟩⟩ := h.stores (.slice none 0 0) (.int .i64 0) (.bool false)
  refine callsD_of_wpS Try.func40 rfl fun c₀ cs hu => ?_
  apply wpS_seq
  apply wpS_region
  simp [wpOpsS, go_sem, recoverD, hu, Try.ntmps40, Exit.thenS]
  refine wpS_cond (t := true) (by simp [Act.eval, Array.replicate]) ?_
  simp only [if_true]
  apply wpS_seq
  apply wpS_region
  simp [wpOpsS, go_sem, a0, a1, Exit.thenS]
  apply wpS_seq
  apply wpS_region
  simp [wpOpsS, go_sem, a2, a3, Exit.thenS]
  apply wpS_seq
  apply wpS_region
  simp [wpOpsS, go_sem, a4, a5, Exit.thenS]
  apply wpS_region
  simp [wpOpsS, go_sem, a6, a7, bodyPostS, results, Try.results40, set4]

/-- The deferred closure, of a frame that returns. -/
theorem rcatch_idle (w : World) :
    CallsD Try.prog 40 #[.pointer (some ⟨n, 0, none⟩), .pointer (some ⟨n + 1, 0, none⟩), .pointer (some ⟨n + 2, 0, none⟩), .pointer (some ⟨n + 3, 0, none⟩)] .returning w fun e u' w' => e = .returned (.tuple #[]) ∧ u' = .returning ∧ w' = w := by
  refine callsD_of_wpS Try.func40 rfl fun c₀ cs hu => ?_
  apply wpS_seq
  apply wpS_region
  simp [wpOpsS, go_sem, recoverD, hu, Try.ntmps40, Exit.thenS]
  refine wpS_cond (t := false) (by simp [Act.eval, Array.replicate]) ?_
  simp only [Bool.false_eq_true, if_false]
  refine wpS_of_wp (wp_skip ?_)
  cases c₀
  simp_all [bodyPostS, results, Try.results40]
end

/-- What impl.Repeat hands back, of a panic. -/
def RepeatNever (w : World) (e : Ending) (w' : World) : Prop :=
  e = .returned (.tuple #[.slice none 0 0, .int .i64 0, .bool false, .bool true]) ∧ Below w.heap.size w w'
/-- What impl.Repeat hands back. -/
def ImplRepeatPost (w : World) (zs : List Int) (c : Nat) (e : Ending) (w' : World) : Prop :=
  ∃ g, e = .returned (.tuple #[.slice (some ⟨g, 0, none⟩) (rep zs c).length (rep zs c).length, .int .i64 ((rep zs c).length : Int), .bool false, .bool false]) ∧ w'.ownsRow w.heap.size 3 1 (.slice (some ⟨g, 0, none⟩) (rep zs c).length (rep zs c).length) (rep zs c).length ((rep zs c).map (Value.int .i64)) ∧ Below w.heap.size w w'

theorem below_four (w : World) (v0 v1 v2 v3 : Value) : Below w.heap.size w ((((w.alloc (.cells #[v0] 23)).alloc (.cells #[v1] 3)).alloc (.cells #[v2] 4)).alloc (.cells #[v3] 4)) :=
  ((((Below.refl w.heap.size w).alloc (Nat.le_refl _) _).alloc (by simp) _).alloc (by simp; omega) _).alloc (by simp; omega) _

set_option maxHeartbeats 1000000 in
/-- impl.Repeat, of a number below 0 or too great -/
theorem implRepeat_never (w : World) (A : Option Addr) (len c : Nat) (m : Int)
    (hp : ∀ w : World, Calls Try.prog 41 #[.slice A len c, .int .i64 m] w fun e w' => (∃ u pv, e = .panicked [{ v := .iface u pv, recovered := false }]) ∧ Below w.heap.size w w') :
    Calls Try.prog 26 #[.slice A len c, .int .i64 m] w (RepeatNever w) := by
  have hmf : ∀ (fn : Fn) (first cap : Array Value) (w : World), (Instr.makeFunc fn first cap).run Try.prog w = .ok (.func fn first cap) w := fun _ _ _ _ => rfl
  have b0 := Four.new w (.slice none 0 0) (.int .i64 0) (.bool false) (.bool false)
  have hb := below_four w (.slice none 0 0) (.int .i64 0) (.bool false) (.bool false)
  have Hp := Lib.hid hp
  clear hp
  go_enter_defers Try.func26, Try.ntmps26
  go_wp2_with fail
  refine (Hp.out _).mono ?_
  rintro e w2 ⟨⟨u, pv, rfl⟩, hb2⟩
  have c0 := b0.below hb2 (by simp)
  have hB2 := hb.trans (hb2.mono (by simp; omega))
  obtain ⟨e0, e1, e2, e3⟩ := c0.set (.slice none 0 0) (.int .i64 0) (.bool false) (.bool true)
  have f0 := e0.cell
  have f1 := e1.cell
  have f2 := e2.cell
  have f3 := e3.cell
  have hB3 := below_set4 hB2 (Nat.le_refl _) (.slice none 0 0) (.int .i64 0) (.bool false) (.bool true)
  refine leaves_cons (f := 40) (args := #[.pointer (some ⟨w.heap.size, 0, none⟩), .pointer (some ⟨w.heap.size + 1, 0, none⟩), .pointer (some ⟨w.heap.size + 2, 0, none⟩), .pointer (some ⟨w.heap.size + 3, 0, none⟩)]) (by simp) (by simp [go_sem]) ?_
  refine (rcatch_panicking w.heap.size _ _ _ _ u pv [] w2 c0).mono ?_
  rintro e u' w3 ⟨rfl, rfl, rfl⟩
  simp [Leaves, settle, results, Try.results26, go_sem, f0, f1, f2, f3]
  exact ⟨rfl, hB3⟩

set_option maxHeartbeats 1000000 in
/-- impl.Repeat -/
theorem implRepeat_calls (w : World) (sv : Value) (zs : List Int) (c : Nat) (hI : SeesI w w.heap.size sv zs) (hz : c * zs.length ≤ 65536) (hl : zs.length ≤ 1000000000000000000) (hc : c ≤ 9223372036854775807) :
    Calls Try.prog 26 #[sv, .int .i64 (c : Int)] w (ImplRepeatPost w zs c) := by
  have hmf : ∀ (fn : Fn) (first cap : Array Value) (w : World), (Instr.makeFunc fn first cap).run Try.prog w = .ok (.func fn first cap) w := fun _ _ _ _ => rfl
  have he := fun (W : World) (a : Option Addr) (n c : Nat) => Lib.run_eql_slice_nil (P := Try.prog) W 23 3 a n c 0 0 Try.underlying23
  have b0 := Four.new w (.slice none 0 0) (.int .i64 0) (.bool false) (.bool false)
  have hb := below_four w (.slice none 0 0) (.int .i64 0) (.bool false) (.bool false)
  have hr := Lib.hid (repeat_calls _ w.heap.size sv zs c (hI.below hb) hb.size hz hl hc)
  obtain ⟨A, cp, rfl, _, _⟩ := hI.form
  clear hI
  go_enter_defers Try.func26, Try.ntmps26
  go_wp2_with fail
  refine hr.out.mono ?_
  rintro e w2 ⟨g, rfl, hr2, hb2⟩
  have hg : w.heap.size + 4 ≤ g := by have := (hr2.lt g rfl).1; simpa using this
  have c0 := b0.below hb2 (by simp)
  have hB2 := hb.trans (hb2.mono (by simp; omega))
  have hr2' := own_base hr2 (show w.heap.size ≤ _ by simp; omega)
  obtain ⟨N, hN⟩ : ∃ N, N = (rep zs c).length := ⟨_, rfl⟩
  have HN := Lib.hid hN
  rw [← hN] at hr2'
  rw [← hN]
  clear hN hr2
  obtain ⟨⟨a0, a1⟩, ⟨a2, a3⟩, ⟨a4, a5⟩, ⟨a6, a7⟩⟩ := c0.stores (.slice (some ⟨g, 0, none⟩) N N) (.int .i64 N) (.bool false)
  obtain ⟨e0, e1, e2, e3⟩ := c0.set (.slice (some ⟨g, 0, none⟩) N N) (.int .i64 N) (.bool false) (.bool false)
  have f0 := e0.cell
  have f1 := e1.cell
  have f2 := e2.cell
  have f3 := e3.cell
  have hB3 := below_set4 hB2 (Nat.le_refl _) (.slice (some ⟨g, 0, none⟩) N N) (.int .i64 N) (.bool false) (.bool false)
  have hr3 := own_set4 hr2' hg (.slice (some ⟨g, 0, none⟩) N N) (.int .i64 N) (.bool false) (.bool false)
  clear hr2'
  go_wp2_with fail
  refine leaves_cons (f := 40) (args := #[.pointer (some ⟨w.heap.size, 0, none⟩), .pointer (some ⟨w.heap.size + 1, 0, none⟩), .pointer (some ⟨w.heap.size + 2, 0, none⟩), .pointer (some ⟨w.heap.size + 3, 0, none⟩)]) (by simp) (by simp [go_sem]) ?_
  refine (rcatch_idle w.heap.size _).mono ?_
  rintro e u' w5 ⟨rfl, rfl, rfl⟩
  simp only [set4] at f0 f1 f2 f3
  simp [Leaves, settle, results, Try.results26, go_sem, f0, f1, f2, f3]
  refine ⟨g, by rw [← HN.out], by rw [← HN.out]; exact hr3, hB3⟩

/-- What spec.TooOften hands back. -/
def TooPost (w : World) (len : Nat) (m : Int) (e : Ending) (w' : World) : Prop :=
  ∃ b : Bool, e = .returned (.bool b) ∧ (b = true ↔ m < 0 ∨ 9223372036854775807 < (len : Int) * m) ∧ w' = w
/-- spec.TooOften -/
theorem tooOften_calls (w : World) (len : Nat) (m : Int) (hm : m ≤ 9223372036854775807) :
    Calls Try.prog 25 #[.int .i64 (len : Int), .int .i64 m] w (TooPost w len m) := by
  by_cases h1 : m < 0
  · go_enter Try.func25, Try.ntmps25
    go_wp2
    go_ret
    exact ⟨_, rfl, by simp [h1], rfl⟩
  · obtain ⟨k, rfl⟩ : ∃ k : Nat, m = (k : Int) := ⟨m.toNat, by omega⟩
    by_cases h2 : len = 0
    · subst h2
      go_enter Try.func25, Try.ntmps25
      go_wp2
      go_ret
      exact ⟨_, rfl, by simp, rfl⟩
    · have h3 : (0 : Int) < (len : Int) := by omega
      have h4 : ¬ (len : Int) = 0 := by omega
      have hq := Lib.hid (Int.ediv_lt_iff_lt_mul (a := 9223372036854775807) (b := (k : Int)) h3)
      go_enter Try.func25, Try.ntmps25
      go_wp2
      go_ret
      refine ⟨_, rfl, ?_, rfl⟩
      rw [decide_eq_true_iff, hq.out, Int.mul_comm]
      exact ⟨fun h => .inr h, fun h => h.resolve_left (by omega)⟩

set_option maxRecDepth 100000 in
set_option maxHeartbeats 1000000 in
/-- spec.Repeat -/
theorem specRepeat_calls (w : World) (B : Nat) (sv : Value) (zs : List Int) (c : Nat) (hI : SeesI w B sv zs) (hB : B ≤ w.heap.size) (hz : c * zs.length ≤ 65536) (hl : zs.length ≤ 1000000000000000000) (hc : c ≤ 9223372036854775807) :
    Calls Try.prog 27 #[sv, .int .i64 (c : Int)] w fun e w' => ∃ v, e = .returned v ∧ w'.ownsRow w.heap.size 3 1 v (rep zs c).length ((rep zs c).map (Value.int .i64)) ∧ Below w.heap.size w w' := by
  obtain ⟨i0, hi, hz0, hz1, hz2⟩ := info_parts Try.infoInt
  have hown0 := own_empty w w.heap.size 1 3 (Nat.le_refl _)
  have hb0 := (Below.refl w.heap.size w).alloc (Nat.le_refl _) (.cells #[] 3)
  have hI' := hI.more hB
  obtain ⟨A, cp, rfl, _, hs⟩ := hI'.form
  clear hI
  go_enter Try.func27, Try.ntmps27
  go_wp2_with fail
  go_loopw [5, 6] (fun v i wr => ∃ q : Nat, q ≤ c ∧ (zs.length = 0 → q = 0) ∧ i = .int .i64 q ∧ wr.ownsRow w.heap.size 3 1 v (rep zs q).length ((rep zs q).map (Value.int .i64)) ∧ Below w.heap.size w wr) (fun _ i _ => c - (intOf i).toNat)
  case atStart => exact ⟨0, Nat.zero_le _, fun _ => rfl, rfl, hown0, hb0⟩
  case round =>
    obtain ⟨q, hq, hq0, rfl, hrow, hb⟩ := hrel
    have hbs := hb.size
    clear hown0 hb0
    obtain ⟨A', c', rfl, _⟩ := own_form hrow
    have hrl := rep_length zs q
    have hsn := Lib.hid (show rep zs (q + 1) = rep zs q ++ zs by rw [rep_add, rep_one])
    by_cases h0 : zs.length = 0
    · have hdone : rep zs c = rep zs q := by
        rw [List.eq_nil_of_length_eq_zero h0, rep_nil, rep_nil]
      have Hd := Lib.hid hdone
      have g0 : ¬ (0 : Int) < (zs.length : Int) := by omega
      clear hdone hs
      generalize rep zs q = X at hrow Hd
      by_cases hlt : (q : Int) < (c : Int)
      · go_wp2
        go_ret
        exact ⟨_, rfl, by rw [Hd.out]; exact hrow, hb⟩
      · go_wp2
        go_ret
        exact ⟨_, rfl, by rw [Hd.out]; exact hrow, hb⟩
    · by_cases hlt : (q : Int) < (c : Int)
      · have hsu := hI'.below hb
        have hle : (q + 1) * zs.length ≤ 65536 := Nat.le_trans (Nat.mul_le_mul_right _ (by omega)) hz
        rw [Nat.add_mul, ← hrl] at hle
        have g0 : (0 : Int) < (zs.length : Int) := by omega
        clear hs hrl
        generalize rep zs q = X at hrow hsn hle
        go_wp2_with (at_builtin; refine wpList_append_sees _ rfl (.tmp 18) (.tmp 19) 23 rfl w.heap.size 3 i0 (.int .i64 0) 1 8 Try.underlying23 hi hz0 hz1 hz2 rfl (by decide) (.slice A' X.length c') X.length _ rfl hrow _ _ zs.length _ rfl hsu (int_cell _) (by unfold maxLen; omega) (by omega) hbs ?_; intro v2 w2 hown2 hg2 hn2 _; have hb2 := below_own hb hrow hg2 (Nat.le_refl _) hbs; clear hn2)
        go_roundw
        case rel => exact ⟨q + 1, by omega, fun h => absurd h h0, by go_num, by rw [hsn.out, List.length_append, List.map_append]; exact hown2, hb2⟩
        case measure => simp [intOf]; omega
      · obtain rfl : q = c := by omega
        clear hs hsn hrl
        go_wp2
        go_ret
        exact ⟨_, rfl, hrow, hb⟩

end Go.Proofs.Ytmfmpfcgllpflaa
