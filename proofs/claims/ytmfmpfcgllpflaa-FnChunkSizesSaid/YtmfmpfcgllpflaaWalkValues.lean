/-
  The contracts of impl.WalkValues and spec.WalkValues: both have the first elements of the list, at most as many as they are told. No statement is proved here.
-/
import Derived.Test.YtmfmpfcgllpflaaValues
namespace Go.Proofs.Ytmfmpfcgllpflaa
open Go.RowKit Go.Shelf
attribute [local go_sem] Oper.semAt_some

theorem take_of_cut {α : Type} {pre zs : List α} {most : Int} (hp : pre <+: zs) (h1 : most ≤ (pre.dropLast.length : Int)) (h2 : pre.dropLast.length ≤ most.toNat) : pre.dropLast = zs.take most.toNat := by
  have e : pre.dropLast <+: zs := (List.dropLast_prefix pre).trans hp
  have hl : most.toNat = pre.dropLast.length := by omega
  rw [hl]
  exact List.prefix_iff_eq_take.1 e

set_option maxRecDepth 100000 in
set_option maxHeartbeats 1000000 in
/-- impl.WalkValues -/
theorem walkValues_calls (w : World) (sv : Value) (zs : List Int) (most : Int) (hI : SeesI w w.heap.size sv zs) (hz : zs.length * 8 ≤ 140737488351232) :
    Calls Try.prog 20 #[sv, .int .i64 most] w fun e w' =>
      ∃ v, e = .returned v ∧ w'.ownsRow w.heap.size 3 1 v (zs.take most.toNat).length ((zs.take most.toNat).map (Value.int .i64)) ∧ Below w.heap.size w w' := by
  obtain ⟨A, c, rfl, _, _⟩ := hI.form
  obtain ⟨i0, hi, hz0, hz1, hz2⟩ := info_parts Try.infoInt
  have hfV : Fence.wide.fn 37 := trivial
  refine (callsIn_wide (n := 5)).1 ?_
  refine callsIn_of_wp_marks Try.func20 rfl trivial ?_ rfl
  simp only [Try.ntmps20, List.size_toArray, List.length_cons, List.length_nil, Nat.reduceAdd, Nat.reduceSub, Array.replicate_succ, Array.replicate_zero, List.push_toArray, List.append_toArray, List.nil_append, List.cons_append]
  gi_wp2_with (gi_at_call 37; refine (callsIn_wide.2 (values_calls _ _ _ _)).mono ?_; rintro e w' ⟨rfl, rfl⟩)
  have bM := (((Boxed.new w 3 (.int .i64 most)).alloc (.cells #[] 3)).alloc (.cells #[.slice (some ⟨w.heap.size + 1, 0, none⟩) 0 0] 23)).alloc (.cells #[.slice A zs.length c] 23)
  have hr0 := (own_empty (w.alloc (.cells #[.int .i64 most] 3)) (w.heap.size + 1) 1 3 (by simp)).alloc (.cells #[.slice (some ⟨w.heap.size + 1, 0, none⟩) 0 0] 23)
  have hr1 := hr0.alloc (.cells #[.slice A zs.length c] 23)
  have bO := (Boxed.new ((w.alloc (.cells #[.int .i64 most] 3)).alloc (.cells #[] 3)) 23 (.slice (some ⟨w.heap.size + 1, 0, none⟩) 0 0)).alloc (.cells #[.slice A zs.length c] 23)
  have bN := Boxed.new (((w.alloc (.cells #[.int .i64 most] 3)).alloc (.cells #[] 3)).alloc (.cells #[.slice (some ⟨w.heap.size + 1, 0, none⟩) 0 0] 23)) 23 (.slice A zs.length c)
  have hB0 := ((((Below.refl w.heap.size w).alloc (Nat.le_refl _) (.cells #[.int .i64 most] 3)).alloc (by simp) (.cells #[] 3)).alloc (by simp; omega) (.cells #[.slice (some ⟨w.heap.size + 1, 0, none⟩) 0 0] 23)).alloc (by simp; omega) (.cells #[.slice A zs.length c] 23)
  simp only [World.size_alloc] at bO bN hr1
  clear hr0
  have hsz : (((((w.alloc (.cells #[.int .i64 most] 3)).alloc (.cells #[] 3)).alloc (.cells #[.slice (some ⟨w.heap.size + 1, 0, none⟩) 0 0] 23)).alloc (.cells #[.slice A zs.length c] 23))).heap.size = w.heap.size + 4 := by simp
  generalize (((w.alloc (.cells #[.int .i64 most] 3)).alloc (.cells #[] 3)).alloc (.cells #[.slice (some ⟨w.heap.size + 1, 0, none⟩) 0 0] 23)).alloc (.cells #[.slice A zs.length c] 23) = W0 at bM bO bN hr1 hB0 hsz ⊢
  refine wpIn_rangeFunc_ownG rfl (by omega) (gf := 51) (lb := #[.pointer (some ⟨w.heap.size + 1 + 1 + 1, 0, none⟩)]) rfl trivial (enters_of Try.func51 (by kernel_rfl) rfl)
    (values_stops 4 (by omega) (w.heap.size + 1 + 1 + 1) w.heap.size _ zs (by omega) W0 (by omega) (by omega) bN.cell (hI.below hB0)) belowK_t (belowK_b (by omega)) (Below.refl _ _) (fun _ => rfl)
    (fun pre W => ((∃ v, Boxed W (w.heap.size + 1 + 1) 23 v ∧ W.ownsRow (w.heap.size + 1) 3 1 v pre.length (pre.map (Value.int .i64)) ∧ pre.length ≤ most.toNat) ∧ Boxed W w.heap.size 3 (.int .i64 most)) ∧ Below w.heap.size w W)
    (fun c pre W => (∃ v, Boxed W (w.heap.size + 1 + 1) 23 v ∧ W.ownsRow (w.heap.size + 1) 3 1 v pre.dropLast.length (pre.dropLast.map (Value.int .i64)) ∧ (c = .exit 0 ∧ most ≤ (pre.dropLast.length : Int) ∧ pre.dropLast.length ≤ most.toNat)) ∧ Below w.heap.size w W)
    (OwnFrom.and (OwnFrom.and (Own.from (holdsRow_own _ _ _ _ 1 (fun pre : List Int => pre.length) (fun pre => pre.map (Value.int .i64)) (fun pre _ => pre.length ≤ most.toNat)) _) (Own.from (boxed_own _ _ _) _)) (ownFrom_below (Nat.le_refl _) (by omega)))
    (fun c => OwnFrom.and (Own.from (holdsRow_own _ _ _ _ 1 (fun pre : List Int => pre.dropLast.length) (fun pre => pre.dropLast.map (Value.int .i64)) (fun pre _ => c = .exit 0 ∧ most ≤ (pre.dropLast.length : Int) ∧ pre.dropLast.length ≤ most.toNat)) _) (ownFrom_below (Nat.le_refl _) (by omega)))
    ⟨⟨⟨_, bO, hr1, Nat.zero_le _⟩, bM⟩, hB0⟩
    (fun x => { tmps := #[.slice A zs.length c, .int .i64 most, undef, .pointer (some ⟨w.heap.size, 0, none⟩), .slice none 0 0, .pointer (some ⟨w.heap.size + 1 + 1, 0, none⟩), .int .i64 x, .slice (some ⟨w.heap.size + 1, 0, none⟩) 0 0, .slice A zs.length c,
      .func (.func 51) #[] #[.pointer (some ⟨w.heap.size + 1 + 1 + 1, 0, none⟩)], .int .i64 x, undef, undef, undef, undef, undef, undef, undef, undef, undef], defers := [] }) ?assign ?body ?done ?stop
  case assign =>
    intro l x W K hK
    gi_wp2
    exact hK
  case body =>
    rintro l pre x W ⟨⟨⟨v, hv, hrow, hle⟩, hm⟩, hB⟩ hlt
    obtain ⟨A', c', rfl, _⟩ := own_form hrow
    have hcv := hv.cell
    have hfv := hv.frozen
    have hcm := hm.cell
    by_cases ht : most ≤ (pre.length : Int)
    · gi_wp2
      exact ⟨KeepsFrom.refl _ _, ⟨_, hv, by simpa using hrow, rfl, by simpa using ht, by simpa using hle⟩, hB⟩
    · gi_wp2_with (gi_at_builtin; refine wpListIn_append_own _ rfl _ _ 23 rfl (w.heap.size + 1) 3 i0 (.int .i64 0) 1 8 Try.underlying23 hi hz0 hz1 hz2 rfl (by decide) _ _ _ rfl (hrow.alloc _) ⟨W.heap.size, 0, none⟩ 1 1 [.int .i64 x] rfl rfl (cell_one_new _ _ _) (by simp [Value.oneCell']) (by unfold maxLen; omega) (by omega) (by have := hm.lt; simp; omega) ?_; intro v' w1 hown' hgrow _; obtain ⟨g', cap', rfl⟩ := ownsRow_succ hown'; obtain ⟨hv1, hv2, hr2, hk2, hb2⟩ := hv.appended (by decide) hrow hm.lt (by omega) hown' hgrow; have hc1 := hv1.cell; have hf1 := hv1.frozen)
      have hb3 := hb2.mono (B' := w.heap.size) (by omega)
      refine ⟨hk2.from _, hb3, ⟨⟨_, hv2, by simpa using hr2, by simp; omega⟩, ?_⟩, hB.trans hb3⟩
      exact box_below hm hb2 (by omega)
  case done =>
    rintro D ys W hD rfl ⟨⟨⟨v, hv, hrow, hle⟩, hm⟩, hB⟩ hK
    obtain ⟨A', c', rfl, _⟩ := own_form hrow
    have hcv := hv.cell
    gi_wp2
    refine ⟨by simp, .inl ⟨_, _, rfl, run_takeDeferred hK, ?_⟩⟩
    exact ⟨_, results_tmp rfl _ _ _, _, rfl, by rw [List.take_of_length_le hle]; exact own_base (ownsRow_putObj hrow _ hK rfl) (by omega), hB.trans (belowK_b (w := w) (Nat.le_refl _) W D _ _ (by omega) hK rfl rfl)⟩
  case stop =>
    rintro D cd pre W hD hpre ⟨⟨v, hv, hrow, rfl, h1, h2⟩, hB⟩ hK
    have he := Lib.hid (take_of_cut hpre h1 h2)
    clear h1 h2
    generalize pre.dropLast = ini at hrow he
    obtain ⟨A', c', rfl, _⟩ := own_form hrow
    have hcv := hv.cell
    gi_wp2
    refine ⟨by simp, .inl ⟨_, _, rfl, run_takeDeferred hK, ?_⟩⟩
    exact ⟨_, results_tmp rfl _ _ _, _, rfl, by rw [← he.out]; exact own_base (ownsRow_putObj hrow _ hK rfl) (by omega), hB.trans (belowK_b (w := w) (Nat.le_refl _) W D _ _ (by omega) hK rfl rfl)⟩

end Go.Proofs.Ytmfmpfcgllpflaa
