/-
  The contract of impl.WalkBackward: the last indices with their elements, the last one first, at most as many as it is told. No statement is proved here.
-/
import Derived.Test.YtmfmpfcgllpflaaBackward
import Derived.Test.YtmfmpfcgllpflaaRange
namespace Go.Proofs.Ytmfmpfcgllpflaa
open Go.RowKit Go.Shelf
attribute [local go_sem] Oper.semAt_some

set_option maxRecDepth 100000 in
set_option maxHeartbeats 1000000 in
/-- impl.WalkBackward -/
theorem walkBackward_calls (w : World) (sv : Value) (zs : List Int) (most : Int) (hI : SeesI w w.heap.size sv zs) (hz : zs.length * 16 ≤ 140737488351232) (hwf : ∀ z ∈ zs, (Lit.int .i64 z).wf = true) :
    Calls Try.prog 22 #[sv, .int .i64 most] w fun e w' =>
      ∃ v, e = .returned v ∧ w'.ownsRow w.heap.size 39 2 v ((backOf zs).take most.toNat).length (pcells ((backOf zs).take most.toNat)) ∧ Below w.heap.size w w' := by
  obtain ⟨A, c, rfl, _, _⟩ := hI.form
  obtain ⟨i0, hi, hz0, hz1, hz2⟩ := info_parts Try.infoPair
  have hfV : Fence.wide.fn 38 := trivial
  refine (callsIn_wide (n := 5)).1 ?_
  refine callsIn_of_wp_marks Try.func22 rfl trivial ?_ rfl
  simp only [Try.ntmps22, List.size_toArray, List.length_cons, List.length_nil, Nat.reduceAdd, Nat.reduceSub, Array.replicate_succ, Array.replicate_zero, List.push_toArray, List.append_toArray, List.nil_append, List.cons_append]
  gi_wp2_with (gi_at_call 38; refine (callsIn_wide.2 (back_calls _ _ _ _)).mono ?_; rintro e w' ⟨rfl, rfl⟩)
  have bM := (((Boxed.new w 3 (.int .i64 most)).alloc (.cells #[] 39)).alloc (.cells #[.slice (some ⟨w.heap.size + 1, 0, none⟩) 0 0] 35)).alloc (.cells #[.slice A zs.length c] 23)
  have hr1 := ((own_empty (w.alloc (.cells #[.int .i64 most] 3)) (w.heap.size + 1) 2 39 (by simp)).alloc (.cells #[.slice (some ⟨w.heap.size + 1, 0, none⟩) 0 0] 35)).alloc (.cells #[.slice A zs.length c] 23)
  have bO := (Boxed.new ((w.alloc (.cells #[.int .i64 most] 3)).alloc (.cells #[] 39)) 35 (.slice (some ⟨w.heap.size + 1, 0, none⟩) 0 0)).alloc (.cells #[.slice A zs.length c] 23)
  have bN := Boxed.new (((w.alloc (.cells #[.int .i64 most] 3)).alloc (.cells #[] 39)).alloc (.cells #[.slice (some ⟨w.heap.size + 1, 0, none⟩) 0 0] 35)) 23 (.slice A zs.length c)
  have hB0 := ((((Below.refl w.heap.size w).alloc (Nat.le_refl _) (.cells #[.int .i64 most] 3)).alloc (by simp) (.cells #[] 39)).alloc (by simp; omega) (.cells #[.slice (some ⟨w.heap.size + 1, 0, none⟩) 0 0] 35)).alloc (by simp; omega) (.cells #[.slice A zs.length c] 23)
  simp only [World.size_alloc] at bO bN hr1
  have hsz : (((((w.alloc (.cells #[.int .i64 most] 3)).alloc (.cells #[] 39)).alloc (.cells #[.slice (some ⟨w.heap.size + 1, 0, none⟩) 0 0] 35)).alloc (.cells #[.slice A zs.length c] 23))).heap.size = w.heap.size + 4 := by simp
  generalize (((w.alloc (.cells #[.int .i64 most] 3)).alloc (.cells #[] 39)).alloc (.cells #[.slice (some ⟨w.heap.size + 1, 0, none⟩) 0 0] 35)).alloc (.cells #[.slice A zs.length c] 23) = W0 at bM bO bN hr1 hB0 hsz ⊢
  refine rangeFunc2 (enc := fun x : Pr => Value.int .i64 x.1.1) (enc' := fun x : Pr => Value.int .i64 x.1.2) (by omega) (gf := 52) (lb := #[.pointer (some ⟨w.heap.size + 1 + 1 + 1, 0, none⟩)]) rfl (enters_of Try.func52 (by kernel_rfl) rfl)
    (back_stops 4 (by omega) (w.heap.size + 1 + 1 + 1) w.heap.size _ zs (by omega) hwf W0 (by omega) (by omega) bN (hI.below hB0)) keepsBox_t (keepsBox_b (by omega) (by omega)) (Below.refl _ _) (by simp) (by simp) (by decide) (by decide)
    (fun pre W => ((∃ v, Boxed W (w.heap.size + 1 + 1) 35 v ∧ W.ownsRow (w.heap.size + 1) 39 2 v pre.length (pcells (pre.map (·.1))) ∧ pre.length ≤ most.toNat) ∧ (Boxed W w.heap.size 3 (.int .i64 most) ∧ Boxed W (w.heap.size + 1 + 1 + 1) 23 (.slice A zs.length c))) ∧ Below w.heap.size w W)
    (fun c pre W => (∃ v, Boxed W (w.heap.size + 1 + 1) 35 v ∧ W.ownsRow (w.heap.size + 1) 39 2 v pre.dropLast.length (pcells (pre.dropLast.map (·.1))) ∧ (c = .exit 0 ∧ most ≤ (pre.dropLast.length : Int) ∧ pre.dropLast.length ≤ most.toNat)) ∧ Below w.heap.size w W)
    (OwnFrom.and (OwnFrom.and (Own.from (holdsRow_own _ _ _ _ 2 (fun pre : List Pr => pre.length) (fun pre => pcells (pre.map (·.1))) (fun pre _ => pre.length ≤ most.toNat)) _) (OwnFrom.and (Own.from (boxed_own _ _ _) _) (Own.from (boxed_own _ _ _) _))) (ownFrom_below (Nat.le_refl _) (by omega)))
    (fun c => OwnFrom.and (Own.from (holdsRow_own _ _ _ _ 2 (fun pre : List Pr => pre.dropLast.length) (fun pre => pcells (pre.dropLast.map (·.1))) (fun pre _ => c = .exit 0 ∧ most ≤ (pre.dropLast.length : Int) ∧ pre.dropLast.length ≤ most.toNat)) _) (ownFrom_below (Nat.le_refl _) (by omega)))
    ⟨⟨⟨_, bO, hr1, Nat.zero_le _⟩, bM, bN⟩, hB0⟩ ?body ?done ?stop
  case body =>
    rintro l pre x W ⟨⟨⟨v, hv, hrow, hle⟩, hm, hn⟩, hB⟩ hlt
    obtain ⟨A', c', rfl, _⟩ := own_form hrow
    have hcv := hv.cell
    have hfv := hv.frozen
    have hcm := hm.cell
    obtain ⟨⟨x1, x2⟩, hx1, hx2⟩ := x
    by_cases ht : most ≤ (pre.length : Int)
    · gi_wp2
      exact ⟨KeepsFrom.refl _ _, ⟨_, hv, by simpa using hrow, rfl, by simpa using ht, by simpa using hle⟩, hB⟩
    · have hpc := Lib.hid (pcells_append (pre.map (·.1)) [(x1, x2)])
      gi_wp2_with (gi_at_builtin; refine wpListIn_append_own _ rfl _ _ 35 rfl (w.heap.size + 1) 39 i0 (.agg #[.int .i64 0, .int .i64 0]) 2 16 Try.underlying35 hi hz0 hz1 hz2 rfl (by decide) _ _ _ rfl (hrow.alloc _) ⟨W.heap.size, 0, none⟩ 1 1 [.int .i64 x1, .int .i64 x2] rfl rfl (pair_new _ _ _ _) (by simp [Value.oneCell']) (by unfold maxLen; omega) (by omega) (by have := hm.lt; simp; omega) ?_; intro v' w1 hown' hgrow _; obtain ⟨g', cap', rfl⟩ := ownsRow_succ hown'; obtain ⟨hv1, hv2, hr2, hk2, hb2⟩ := hv.appended (by decide) hrow hm.lt (by omega) hown' hgrow; have hn2 := box_other (B := w.heap.size + 1 + 1) (v' := .slice (some ⟨g', 0, none⟩) (pre.length + 1) cap') hn (by decide) hrow hgrow (by omega); have hc1 := hv1.cell; have hf1 := hv1.frozen)
      have hb3 := hb2.mono (B' := w.heap.size) (by omega)
      refine ⟨hk2.from _, ⟨hb3, hn2.trans (Eq.symm hn)⟩, ⟨⟨_, hv2, ?_, by simp; omega⟩, box_below hm hb2 (by omega), hn2⟩, hB.trans hb3⟩
      rw [List.map_append, List.map_cons, List.map_nil, hpc.out, List.length_append]
      exact hr2
  case done =>
    rintro D ys W hD hys ⟨⟨⟨v, hv, hrow, hle⟩, _⟩, hB⟩ hK
    have hlen : ys.length = (backOf zs).length := by rw [← hys, List.length_map]
    have hfin : ys.map (·.1) = (backOf zs).take most.toNat := by rw [hys, List.take_of_length_le (by omega)]
    have Hfin := Lib.hid hfin
    have Hlen := Lib.hid (show ys.length = ((backOf zs).take most.toNat).length by rw [← hfin, List.length_map])
    clear hys hlen hfin
    obtain ⟨A', c', rfl, _⟩ := own_form hrow
    have hcv := hv.cell
    gi_wp2
    refine ⟨by simp, .inl ⟨_, _, rfl, run_takeDeferred hK, ?_⟩⟩
    exact ⟨_, results_tmp rfl _ _ _, .slice A' ys.length c', rfl, by rw [← Hlen.out, ← Hfin.out]; exact own_base (ownsRow_putObj hrow _ hK rfl) (by omega), hB.trans (belowK_b (w := w) (Nat.le_refl _) W D _ _ (by omega) hK rfl rfl)⟩
  case stop =>
    rintro D cd pre W hD hpre ⟨⟨v, hv, hrow, rfl, h1, h2⟩, hB⟩ hK
    have Hfin := Lib.hid (take_of_cut' (fun x : Pr => x.1) hpre h1 h2)
    have Hlen := Lib.hid (show pre.dropLast.length = ((backOf zs).take most.toNat).length by rw [← Hfin.out, List.length_map])
    clear h1 h2 hpre
    generalize pre.dropLast = ini at hrow Hfin Hlen
    obtain ⟨A', c', rfl, _⟩ := own_form hrow
    have hcv := hv.cell
    gi_wp2
    refine ⟨by simp, .inl ⟨_, _, rfl, run_takeDeferred hK, ?_⟩⟩
    exact ⟨_, results_tmp rfl _ _ _, .slice A' ini.length c', rfl, by rw [← Hlen.out, ← Hfin.out]; exact own_base (ownsRow_putObj hrow _ hK rfl) (by omega), hB.trans (belowK_b (w := w) (Nat.le_refl _) W D _ _ (by omega) hK rfl rfl)⟩

end Go.Proofs.Ytmfmpfcgllpflaa
