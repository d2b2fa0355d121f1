/-
  The contract of impl.ConcatChunks. No statement is proved here.
-/
import Derived.Test.YtmfmpfcgllpflaaChunk
import Derived.Test.YtmfmpfcgllpflaaCollectL
import Derived.Test.YtmfmpfcgllpflaaConcat
import Derived.Recover
namespace Go.Proofs.Ytmfmpfcgllpflaa
open Go.RowKit Go.Shelf

theorem wf_le {x : Int} (h : (Lit.int .i64 x).wf = true) : x ≤ 9223372036854775807 := by
  simp [Lit.wf, IntKind.min, IntKind.max, IntKind.signed, IntKind.bits] at h
  omega

/-- The parts of a list. -/
def partsL (zs : List Int) (m : Nat) : List (List Int) := (List.range (cntS zs.length m)).map fun k => (zs.drop (k * m)).take m
theorem parts_take (zs : List Int) (m k : Nat) (hk : k ≤ cntS zs.length m) : ((List.range k).map fun k => (zs.drop (k * m)).take m).flatten = zs.take (k * m) := by
  induction k with
  | zero => simp
  | succ k ih =>
    rw [List.range_succ, List.map_append, List.flatten_append, ih (by omega), Nat.succ_mul, List.take_add]
    simp
theorem flat_parts (zs : List Int) (m : Nat) (hm : 0 < m) : flat (partsL zs m) = zs := by
  unfold flat partsL
  rw [parts_take zs m _ (Nat.le_refl _)]
  refine List.take_of_length_le ?_
  rcases Nat.lt_or_ge (cntS zs.length m * m) zs.length with h | h
  · exact absurd ((cntS_lt (k := cntS zs.length m) hm).2 h) (Nat.lt_irrefl _)
  · exact h
theorem partsL_length (zs : List Int) (m : Nat) : (partsL zs m).length = cntS zs.length m := by simp [partsL]
theorem cntS_le (len m : Nat) (hm : 0 < m) : cntS len m ≤ len := by
  rcases Nat.lt_or_ge len (cntS len m) with h | h
  · have := (cntS_lt (k := len) hm).1 h
    have := Nat.le_mul_of_pos_right len hm
    omega
  · exact h

/-- A part of a slice. -/
theorem SeesI.mid {w : World} {B b off c : Nat} {zs : List Int} (h : SeesI w B (.slice (some ⟨b, off, none⟩) zs.length c) zs) (i m : Nat) (hi : i < zs.length) :
    SeesI w B (.slice (some ⟨b, off + i, none⟩) (min m (zs.length - i)) (min m (zs.length - i))) ((zs.drop i).take m) := by
  obtain ⟨_, A, c', e, _, hs⟩ := h
  cases e
  have hl : ((zs.drop i).take m).length = min m (zs.length - i) := by rw [List.length_take, List.length_drop]
  refine ⟨by rw [List.length_map, Nat.mul_one], _, _, by rw [hl], by rw [hl]; exact Nat.le_refl _, fun h0 => ?_⟩
  obtain ⟨b', off', hA, hb, hx⟩ := hs (by omega)
  cases hA
  refine ⟨b, off + i, rfl, hb, fun j hj => ?_⟩
  rw [hl, Nat.mul_one] at hj
  have := hx (i + j) (by omega)
  rw [Nat.add_assoc, this, List.getElem?_map, List.getElem?_map, List.getElem?_take_of_lt (by omega), List.getElem?_drop]

/-- What is collected of the parts. -/
theorem sees_parts {w : World} {base b off c m : Nat} {v : Value} {zs : List Int} (hm : 0 < m) (hr : w.ownsRow base 23 1 v (partsS b off zs.length m).length ((partsS b off zs.length m).map encS)) (hs : 0 < zs.length → SeesI w w.heap.size (.slice (some ⟨b, off, none⟩) zs.length c) zs) :
    SeesL w w.heap.size v (partsL zs m) := by
  refine ⟨_, by rw [partsL_length, ← partsS_length b off zs.length m]; exact Sees.own hr, fun i hi => ?_⟩
  rw [partsL_length] at hi
  have him := (cntS_lt hm).1 hi
  refine ⟨encS (partS b off zs.length m i), by simp [partsS, hi], ?_⟩
  have := (hs (by omega)).mid (i * m) m him
  simpa [partsL, partS] using this

section
variable (p q : Addr)
/-- The deferred closure, of a frame that panics. -/
theorem ccatch_panicking (x y : Value) (u : TypeId) (pv : Value) (older : List PanicEntry) (w : World) (hne : p ≠ q) (hc : w.cell? p = some x) (hz : w.frozen? p = false) (hc2 : w.cell? q = some y) (hz2 : w.frozen? q = false) :
    CallsD Try.prog 42 #[.pointer (some p), .pointer (some q)] (.panicking ({ v := .iface u pv, recovered := false } :: older)) w fun e u' w' =>
      e = .returned (.tuple #[]) ∧ u' = .panicking ({ v := .iface u pv, recovered := true } :: older) ∧ w' = (w.setCell p (.slice none 0 0)).setCell q (.bool true) := by
  refine callsD_of_wpS Try.func42 rfl fun c₀ cs hu => ?_
  apply wpS_seq
  apply wpS_region
  simp [wpOpsS, go_sem, recoverD, hu, Try.ntmps42, Exit.thenS]
  refine wpS_cond (t := true) (by simp [Act.eval, Array.replicate]) ?_
  simp only [if_true]
  have hcq : (w.setCell p (.slice none 0 0)).cell? q = some y := (World.cell?_setCell_other w p q _ hne).trans hc2
  have hzq : (w.setCell p (.slice none 0 0)).frozen? q = false := by rw [World.frozen?_setCell]; exact hz2
  apply wpS_seq
  apply wpS_region
  simp [wpOpsS, go_sem, hc, hz, Exit.thenS]
  apply wpS_region
  simp [wpOpsS, go_sem, hcq, hzq, bodyPostS, results, Try.results42]

/-- The deferred closure, of a frame that returns. -/
theorem ccatch_idle (w : World) :
    CallsD Try.prog 42 #[.pointer (some p), .pointer (some q)] .returning w fun e u' w' => e = .returned (.tuple #[]) ∧ u' = .returning ∧ w' = w := by
  refine callsD_of_wpS Try.func42 rfl fun c₀ cs hu => ?_
  apply wpS_seq
  apply wpS_region
  simp [wpOpsS, go_sem, recoverD, hu, Try.ntmps42, Exit.thenS]
  refine wpS_cond (t := false) (by simp [Act.eval, Array.replicate]) ?_
  simp only [Bool.false_eq_true, if_false]
  refine wpS_of_wp (wp_skip ?_)
  cases c₀
  simp_all [bodyPostS, results, Try.results42]
end

/-- What impl.ConcatChunks hands back. -/
def ConcatChunksPost (w : World) (zs : List Int) (b : Bool) (e : Ending) (w' : World) : Prop :=
  ∃ v, e = .returned (.tuple #[v, .bool b]) ∧ w'.ownsRow w.heap.size 3 1 v zs.length (zs.map (Value.int .i64)) ∧ Below w.heap.size w w'

set_option maxHeartbeats 1000000 in
/-- impl.ConcatChunks, of a size below 1 -/
theorem concatChunks_never (w : World) (A : Option Addr) (len c : Nat) (m : Int) (hm : m < 1) :
    Calls Try.prog 28 #[.slice A len c, .int .i64 m] w (ConcatChunksPost w [] true) := by
  have hmf : ∀ (fn : Fn) (first cap : Array Value) (w : World), (Instr.makeFunc fn first cap).run Try.prog w = .ok (.func fn first cap) w := fun _ _ _ _ => rfl
  have b0 := (Boxed.new w 23 (.slice none 0 0)).alloc (.cells #[.bool false] 4)
  have b1 := Boxed.new (w.alloc (.cells #[.slice none 0 0] 23)) 4 (.bool false)
  have hb := ((Below.refl w.heap.size w).alloc (Nat.le_refl _) (.cells #[.slice none 0 0] 23)).alloc (by simp) (.cells #[.bool false] 4)
  rw [World.size_alloc] at b1
  go_enter_defers Try.func28, Try.ntmps28
  go_wp2_with fail
  refine (chunk_panics A len c m hm _).mono ?_
  rintro e w2 ⟨⟨u, pv, rfl⟩, hb2⟩
  have c0 := box_below b0 hb2 (by simp; omega)
  have c1 := box_below b1 hb2 (by simp)
  have hB2 := hb.trans (hb2.mono (by simp; omega))
  have d0 := (c0.set (.slice none 0 0)).other (B' := w.heap.size + 1) (by omega) (.bool true)
  have d1 := (c1.other (B' := w.heap.size) (by omega) (.slice none 0 0)).set (.bool true)
  have e0 := d0.cell
  have e1 := d1.cell
  have hB3 := (hB2.grown (grownBy_setCell' w2 w.heap.size (.slice none 0 0)) hB2.size (fun k e => by cases e; exact Nat.le_refl _)).grown (grownBy_setCell' _ (w.heap.size + 1) (.bool true)) (by have := hB2.size; simp [World.setCell]; omega) (fun k e => by cases e; omega)
  refine leaves_cons (f := 42) (args := #[.pointer (some ⟨w.heap.size, 0, none⟩), .pointer (some ⟨w.heap.size + 1, 0, none⟩)]) (by simp) (by simp [go_sem]) ?_
  refine (ccatch_panicking ⟨w.heap.size, 0, none⟩ ⟨w.heap.size + 1, 0, none⟩ _ _ u pv [] w2 (by simp) c0.cell c0.frozen c1.cell c1.frozen).mono ?_
  rintro e u' w3 ⟨rfl, rfl, rfl⟩
  simp [Leaves, settle, results, Try.results28, go_sem, e0, e1]
  exact ⟨_, rfl, World.ownsRow_nil _ _ _ _, hB3⟩

set_option maxHeartbeats 1000000 in
/-- impl.ConcatChunks -/
theorem concatChunks_calls (w : World) (sv : Value) (zs : List Int) (m : Nat) (hI : SeesI w w.heap.size sv zs) (hm : 0 < m) (hm63 : m ≤ 9223372036854775807) (hz : zs.length * 24 ≤ 140737488355328) :
    Calls Try.prog 28 #[sv, .int .i64 (m : Int)] w (ConcatChunksPost w zs false) := by
  have hmf : ∀ (fn : Fn) (first cap : Array Value) (w : World), (Instr.makeFunc fn first cap).run Try.prog w = .ok (.func fn first cap) w := fun _ _ _ _ => rfl
  obtain ⟨A, c, rfl, hlc, hx⟩ := hI.form
  obtain ⟨b, off, hA⟩ : ∃ b off, 0 < zs.length → A = some (⟨b, off, none⟩ : Addr) := by
    rcases Nat.eq_zero_or_pos zs.length with h | h
    · exact ⟨0, 0, fun h' => by omega⟩
    · obtain ⟨b, off, hA, _⟩ := hx h
      exact ⟨b, off, fun _ => hA⟩
  have b0 := ((((Boxed.new w 23 (.slice none 0 0)).alloc (.cells #[.bool false] 4)).alloc (.cells #[.slice A zs.length c] 23)).alloc (.cells #[.int .i64 (m : Int)] 3))
  have b1 := ((Boxed.new (w.alloc (.cells #[.slice none 0 0] 23)) 4 (.bool false)).alloc (.cells #[.slice A zs.length c] 23)).alloc (.cells #[.int .i64 (m : Int)] 3)
  have b2 := (Boxed.new ((w.alloc (.cells #[.slice none 0 0] 23)).alloc (.cells #[.bool false] 4)) 23 (.slice A zs.length c)).alloc (.cells #[.int .i64 (m : Int)] 3)
  have b3 := Boxed.new (((w.alloc (.cells #[.slice none 0 0] 23)).alloc (.cells #[.bool false] 4)).alloc (.cells #[.slice A zs.length c] 23)) 3 (.int .i64 (m : Int))
  have hb := ((((Below.refl w.heap.size w).alloc (Nat.le_refl _) (.cells #[.slice none 0 0] 23)).alloc (by simp) (.cells #[.bool false] 4)).alloc (by simp; omega) (.cells #[.slice A zs.length c] 23)).alloc (by simp; omega) (.cells #[.int .i64 (m : Int)] 3)
  have hsz : ((((w.alloc (.cells #[.slice none 0 0] 23)).alloc (.cells #[.bool false] 4)).alloc (.cells #[.slice A zs.length c] 23)).alloc (.cells #[.int .i64 (m : Int)] 3)).heap.size = w.heap.size + 4 := by simp
  simp only [World.size_alloc] at b1 b2 b3
  have hcl := cntS_le zs.length m hm
  have hfp := flat_parts zs m hm
  go_enter_defers Try.func28, Try.ntmps28
  go_wp2_with fail
  refine (chunk_calls A zs.length c m hm _).mono ?_
  rintro e w2 ⟨rfl, rfl⟩
  simp only [World.size_alloc]
  generalize (((w.alloc (.cells #[.slice none 0 0] 23)).alloc (.cells #[.bool false] 4)).alloc (.cells #[.slice A zs.length c] 23)).alloc (.cells #[.int .i64 (m : Int)] 3) = W at b0 b1 b2 b3 hb hsz ⊢
  have hc := Lib.hid (collectL_calls W (cntS zs.length m) 47 #[.pointer (some ⟨w.heap.size + 1 + 1, 0, none⟩), .pointer (some ⟨w.heap.size + 1 + 1 + 1, 0, none⟩)] (enters_of Try.func47 (by kernel_rfl) rfl)
    (chunk_stops 4 (by omega) (w.heap.size + 1 + 1) (w.heap.size + 1 + 1 + 1) W.heap.size b off zs.length c m A hm hm63 (by omega) hA hlc W (by omega) (by omega) (by omega) (by omega) b2.cell b3.cell) belowK_t (belowK_b (Nat.le_refl _)) (fun _ _ h _ => h) (by omega))
  go_wp2_with fail
  refine hc.out.mono ?_
  rintro e w3 ⟨v3, xs, rfl, rfl, hr3, _, hb3⟩
  have hB3 := hb.trans (hb3.mono (by omega))
  have hs3 := hb3.size
  have hsl := sees_parts (c := c) hm hr3 (fun h0 => by have := (hI.below hB3).more (B' := w3.heap.size) (by omega); rwa [hA h0] at this)
  have hcc := Lib.hid (concat_calls w3 w3.heap.size v3 (partsL zs m) hsl (Nat.le_refl _) (by rw [hfp]; omega) (by rw [partsL_length]; omega))
  obtain ⟨A3, c3, rfl, _⟩ := own_form hr3
  clear hr3 hsl hc hI hx
  go_wp2_with fail
  refine hcc.out.mono ?_
  rintro e w4 ⟨v4, rfl, hr4, _, hb4⟩
  rw [hfp] at hr4
  have hs4 := hb4.size
  have hB4 := hB3.trans (hb4.mono (by omega))
  have c0 := box_below (box_below b0 hb3 (by omega)) hb4 (by omega)
  have c1 := box_below (box_below b1 hb3 (by omega)) hb4 (by omega)
  obtain ⟨A4, c4, rfl, _⟩ := own_form hr4
  have z0 := c0.cell
  have y0 := c0.frozen
  have c1' := c1.other (B' := w.heap.size) (by omega) (.slice A4 zs.length c4)
  have z1 := c1'.cell
  have y1 := c1'.frozen
  have d0 := (c0.set (.slice A4 zs.length c4)).other (B' := w.heap.size + 1) (by omega) (.bool false)
  have d1 := c1'.set (.bool false)
  have e0 := d0.cell
  have e1 := d1.cell
  have hr5 := hr4.kept (grownBy_setCell' w4 w.heap.size (.slice A4 zs.length c4)) (.inr (c0.not_row (by decide) hr4).symm)
  have hr6 := hr5.kept (grownBy_setCell' _ (w.heap.size + 1) (.bool false)) (.inr (c1'.not_row (by decide) hr5).symm)
  have hB5 := (hB4.grown (grownBy_setCell' w4 w.heap.size (.slice A4 zs.length c4)) hB4.size (fun k e => by cases e; exact Nat.le_refl _)).grown (grownBy_setCell' _ (w.heap.size + 1) (.bool false)) (by have := hB4.size; simp [World.setCell]; omega) (fun k e => by cases e; omega)
  clear hcc
  go_wp2_with fail
  refine leaves_cons (f := 42) (args := #[.pointer (some ⟨w.heap.size, 0, none⟩), .pointer (some ⟨w.heap.size + 1, 0, none⟩)]) (by simp) (by simp [go_sem]) ?_
  refine (ccatch_idle ⟨w.heap.size, 0, none⟩ ⟨w.heap.size + 1, 0, none⟩ _).mono ?_
  rintro e u' w5 ⟨rfl, rfl, rfl⟩
  simp [Leaves, settle, results, Try.results28, go_sem, e0, e1]
  exact ⟨_, rfl, own_base hr6 (by omega), hB5⟩

end Go.Proofs.Ytmfmpfcgllpflaa
