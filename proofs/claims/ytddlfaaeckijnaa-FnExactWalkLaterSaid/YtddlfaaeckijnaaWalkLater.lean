/-
  The contract of impl.WalkLater: what is put into the list behind slices.Values is walked over. No statement is proved here.
-/
import Derived.Test.YtddlfaaeckijnaaCollectSet
import Derived.Test.YtddlfaaeckijnaaRange
namespace Go.Proofs.Ytddlfaaeckijnaa
open Go.RowKit Go.Shelf
attribute [local go_sem] Oper.semAt_some

set_option maxRecDepth 100000 in
set_option maxHeartbeats 2000000 in
/-- impl.WalkLater -/
theorem walkLater_calls (w : World) (sv : Value) (zs : List Int) (at_ v : Int) (hI : SeesI w w.heap.size sv zs) (hz : zs.length * 8 ≤ 140737488351232) :
    Calls Try.prog 26 #[sv, .int .i64 at_, .int .i64 v] w fun e w' =>
      ∃ x, e = .returned x ∧ w'.ownsRow w.heap.size 3 1 x (putTo zs at_ v zs.length).length ((putTo zs at_ v zs.length).map (Value.int .i64)) ∧ Below w.heap.size w w' := by
  obtain ⟨i0, hi, hz0, hz1, hz2⟩ := info_parts Try.infoInt
  have hown0 := own_empty w w.heap.size 1 3 (Nat.le_refl _)
  have hb0 := (Below.refl w.heap.size w).alloc (Nat.le_refl _) (.cells #[] 3)
  have ha0 := hI.below hb0
  obtain ⟨A, c, rfl, _⟩ := hI.form
  have hfV : Fence.wide.fn 37 := trivial
  refine (callsIn_wide (n := 5)).1 ?_
  refine callsIn_of_wp_marks Try.func26 rfl trivial ?_ rfl
  simp only [Try.ntmps26, List.size_toArray, List.length_cons, List.length_nil, Nat.reduceAdd, Nat.reduceSub, Array.replicate_succ, Array.replicate_zero, List.push_toArray, List.append_toArray, List.nil_append, List.cons_append]
  generalize hzs : putTo zs at_ v zs.length = zs'
  have hl' : zs'.length = zs.length := by rw [← hzs, putTo_length]
  have Hzs := Lib.hid hzs
  have Hl := Lib.hid hl'
  clear hzs hl'
  by_cases h0 : 0 ≤ at_ ∧ at_ < (zs.length : Int)
  · obtain ⟨k, rfl⟩ := Int.eq_ofNat_of_zero_le h0.1
    have hk : k < zs.length := by have := h0.2; omega
    have hk0 : 0 ≤ (k : Int) := h0.1
    clear h0
    have hset := (putTo_in zs (k : Int) v (by omega) (by omega)).symm.trans Hzs.out
    rw [Int.toNat_natCast] at hset
    have Hset := Lib.hid hset
    clear hset
    gi_wp2_with (first
      | (gi_at_builtin; refine wpListIn_append_sees _ rfl (.tmp 11) (.tmp 12) 22 rfl w.heap.size 3 i0 (.int .i64 0) 1 8 Try.underlying22 hi hz0 hz1 hz2 rfl (by decide) (.slice (some ⟨w.heap.size, 0, none⟩) 0 0) 0 [] rfl hown0 _ _ _ _ rfl ha0 (int_cell _) (by unfold maxLen; omega) (by omega) (by simp) ?_; intro v1 w1 hown1 hg1 _ _; have hb1 := below_own hb0 hown0 hg1 (Nat.le_refl _) (by simp); rw [Nat.zero_add, List.nil_append] at hown1; have hf := own_pos hown1 (by omega); obtain ⟨g, c1, hv1⟩ := hf; rw [hv1] at hown1 ⊢; have hcell : ∀ o, (w1.alloc o).cell? ⟨g, k, none⟩ = some (.int .i64 (zs[k]?.getD 0)) := (fun o => own_int (hown1.alloc o) k hk); have hfz := fun o => (hown1.alloc o).frozenAt k; clear hown0 hb0 hg1)
      | (gi_at_call 37; refine (callsIn_wide.2 (values_calls _ _ _ _)).mono ?_; rintro e w' ⟨rfl, rfl⟩))
    have hst := ((hown1.alloc (.cells #[.slice (some ⟨g, 0, none⟩) zs.length c1] 22)).stored k (.int .i64 v)).1
    rw [map_set, Hset.out] at hst
    have hgl := hown1.lt g rfl
    have hs1 := hb1.size
    have hsW : ((w1.alloc (.cells #[.slice (some ⟨g, 0, none⟩) zs.length c1] 22)).setCell ⟨g, k, none⟩ (.int .i64 v)).heap.size = w1.heap.size + 1 := by simp [World.setCell]
    have s2 : SeesI ((w1.alloc (.cells #[.slice (some ⟨g, 0, none⟩) zs.length c1] 22)).setCell ⟨g, k, none⟩ (.int .i64 v)) (w1.heap.size + 1) (.slice (some ⟨g, 0, none⟩) zs.length c1) zs' := by
      have h1 := Sees.own hst
      rw [hsW] at h1
      unfold SeesI
      rw [Hl.out]
      exact h1
    have bN0 : Boxed ((w1.alloc (.cells #[.slice (some ⟨g, 0, none⟩) zs.length c1] 22)).setCell ⟨g, k, none⟩ (.int .i64 v)) w1.heap.size 22 (.slice (some ⟨g, 0, none⟩) zs.length c1) :=
      (Below.heap_setCell _ ⟨g, k, none⟩ _ _ (by show _ ≠ g; omega)).trans (Boxed.new w1 22 (.slice (some ⟨g, 0, none⟩) zs.length c1))
    have hbW2 := (hb1.alloc hb1.size (.cells #[.slice (some ⟨g, 0, none⟩) zs.length c1] 22)).setCell (p := ⟨g, k, none⟩) (by show _ ≤ g; omega) (.int .i64 v)
    clear hst hcell hfz
    generalize (w1.alloc (.cells #[.slice (some ⟨g, 0, none⟩) zs.length c1] 22)).setCell ⟨g, k, none⟩ (.int .i64 v) = W2 at hsW s2 bN0 hbW2 ⊢
    have bN := (bN0.alloc (.cells #[] 3)).alloc (.cells #[.slice (some ⟨w1.heap.size + 1, 0, none⟩) 0 0] 22)
    have hr0 := (own_empty W2 (w1.heap.size + 1) 1 3 (by omega)).alloc (.cells #[.slice (some ⟨w1.heap.size + 1, 0, none⟩) 0 0] 22)
    have bO := Boxed.new (W2.alloc (.cells #[] 3)) 22 (.slice (some ⟨w1.heap.size + 1, 0, none⟩) 0 0)
    have hbW := (hbW2.alloc (by omega) (.cells #[] 3)).alloc (by simp; omega) (.cells #[.slice (some ⟨w1.heap.size + 1, 0, none⟩) 0 0] 22)
    have s0 := (s2.more (B' := w1.heap.size + 1) (by omega)).below (((Below.refl (w1.heap.size + 1) W2).alloc (by omega) (.cells #[] 3)).alloc (by simp; omega) (.cells #[.slice (some ⟨w1.heap.size + 1, 0, none⟩) 0 0] 22))
    have hsz : ((W2.alloc (.cells #[] 3)).alloc (.cells #[.slice (some ⟨w1.heap.size + 1, 0, none⟩) 0 0] 22)).heap.size = w1.heap.size + 3 := by simp [hsW]
    simp only [World.size_alloc, hsW] at bO hr0
    generalize (W2.alloc (.cells #[] 3)).alloc (.cells #[.slice (some ⟨w1.heap.size + 1, 0, none⟩) 0 0] 22) = W0 at bN bO hr0 hbW hsz s0 ⊢
    refine rangeFunc1 (enc := fun x : Int => Value.int .i64 x) (by omega) (gf := 45) (lb := #[.pointer (some ⟨w1.heap.size, 0, none⟩)]) rfl (enters_of Try.func45 (by kernel_rfl) rfl)
      (values_stops 4 (by omega) w1.heap.size (w1.heap.size + 1) _ zs' (by rw [Hl.out]; omega) W0 (by omega) (by omega) bN.cell s0) belowK_t (belowK_b (by omega)) (Below.refl _ _) (by simp)
      (fun pre W => (∃ x, Boxed W (w1.heap.size + 1 + 1) 22 x ∧ W.ownsRow (w1.heap.size + 1) 3 1 x pre.length (pre.map (Value.int .i64)) ∧ True) ∧ Below w.heap.size w W)
      (fun _ _ _ => False)
      (OwnFrom.and (Own.from (holdsRow_own _ _ _ _ 1 (fun pre : List Int => pre.length) (fun pre => pre.map (Value.int .i64)) (fun _ _ => True)) _) (ownFrom_below (Nat.le_refl _) (by omega)))
      (fun _ _ _ _ _ hs _ _ => hs)
      ⟨⟨_, bO, hr0, trivial⟩, hbW⟩ ?body ?done ?stop
    case body =>
      rintro l pre x W ⟨⟨u, hv, hrow, _⟩, hB⟩ hlt
      obtain ⟨A', c', rfl, _⟩ := own_form hrow
      have hcv := hv.cell
      have hfv := hv.frozen
      have hm := hv.lt
      have hlt' : pre.length < zs.length := by have := Hl.out; omega
      clear hlt
      gi_wp2_with (gi_at_builtin; refine wpListIn_append_own _ rfl _ _ 22 rfl (w1.heap.size + 1) 3 i0 (.int .i64 0) 1 8 Try.underlying22 hi hz0 hz1 hz2 rfl (by decide) _ _ _ rfl (hrow.alloc _) ⟨W.heap.size, 0, none⟩ 1 1 [.int .i64 x] rfl rfl (cell_one_new _ _ _) (by simp [Value.oneCell']) (by unfold maxLen; omega) (by omega) (by simp; omega) ?_; intro v' w2 hown' hgrow _; obtain ⟨g', cap', rfl⟩ := ownsRow_succ hown'; obtain ⟨hv1, hv2, hr2, hk2, hb2⟩ := hv.appended (by decide) hrow (by omega) (by omega) hown' hgrow; have hc1 := hv1.cell; have hf1 := hv1.frozen)
      exact ⟨hk2.from _, hb2, ⟨_, hv2, by simpa using hr2, trivial⟩, hB.trans (hb2.mono (by omega))⟩
    case done =>
      rintro D ys W hD rfl ⟨⟨u, hv, hrow, _⟩, hB⟩ hK
      obtain ⟨A', c', rfl, _⟩ := own_form hrow
      have hcv := hv.cell
      gi_wp2
      refine ⟨by simp, .inl ⟨_, _, rfl, run_takeDeferred hK, ?_⟩⟩
      exact ⟨_, results_tmp rfl _ _ _, _, rfl, own_base (ownsRow_putObj hrow _ hK rfl) (by omega), hB.trans (belowK_b (w := w) (Nat.le_refl _) W D _ _ (by omega) hK rfl rfl)⟩
    case stop =>
      rintro D cd pre W _ _ h _
      exact h.elim
  · have hset := (putTo_out zs at_ v h0).symm.trans Hzs.out
    subst hset
    clear Hzs Hl
    by_cases h1 : 0 ≤ at_
    · have h2 : decide (at_ < (zs.length : Int)) = false := by simp; omega
      have h3 : ¬ at_ < (zs.length : Int) := by omega
      clear h0
      gi_wp2_with (first
        | (gi_at_builtin; refine wpListIn_append_sees _ rfl (.tmp 11) (.tmp 12) 22 rfl w.heap.size 3 i0 (.int .i64 0) 1 8 Try.underlying22 hi hz0 hz1 hz2 rfl (by decide) (.slice (some ⟨w.heap.size, 0, none⟩) 0 0) 0 [] rfl hown0 _ _ _ _ rfl ha0 (int_cell _) (by unfold maxLen; omega) (by omega) (by simp) ?_; intro v1 w1 hown1 hg1 _ _; have hb1 := below_own hb0 hown0 hg1 (Nat.le_refl _) (by simp); rw [Nat.zero_add, List.nil_append] at hown1; have hf : ∃ A1 c1, v1 = .slice A1 zs.length c1 := (let ⟨A1, c1, e, _⟩ := own_form hown1; ⟨A1, c1, e⟩); obtain ⟨A1, c1, hv1⟩ := hf; rw [hv1] at hown1 ⊢; clear hown0 hb0 hg1)
        | (gi_at_call 37; refine (callsIn_wide.2 (values_calls _ _ _ _)).mono ?_; rintro e w' ⟨rfl, rfl⟩))
      have hs1 := hb1.size
      have hsW : (w1.alloc (.cells #[.slice A1 zs.length c1] 22)).heap.size = w1.heap.size + 1 := by simp
      have s2 := ((SeesI.own hown1).below ((Below.refl w1.heap.size w1).alloc (Nat.le_refl _) (.cells #[.slice A1 zs.length c1] 22))).more (B' := w1.heap.size + 1) (by omega)
      have bN0 := Boxed.new w1 22 (.slice A1 zs.length c1)
      have hbW2 := hb1.alloc hb1.size (.cells #[.slice A1 zs.length c1] 22)
      generalize w1.alloc (.cells #[.slice A1 zs.length c1] 22) = W2 at hsW s2 bN0 hbW2 ⊢
      have bN := (bN0.alloc (.cells #[] 3)).alloc (.cells #[.slice (some ⟨w1.heap.size + 1, 0, none⟩) 0 0] 22)
      have hr0 := (own_empty W2 (w1.heap.size + 1) 1 3 (by omega)).alloc (.cells #[.slice (some ⟨w1.heap.size + 1, 0, none⟩) 0 0] 22)
      have bO := Boxed.new (W2.alloc (.cells #[] 3)) 22 (.slice (some ⟨w1.heap.size + 1, 0, none⟩) 0 0)
      have hbW := (hbW2.alloc (by omega) (.cells #[] 3)).alloc (by simp; omega) (.cells #[.slice (some ⟨w1.heap.size + 1, 0, none⟩) 0 0] 22)
      have s0 := (s2.more (B' := w1.heap.size + 1) (by omega)).below (((Below.refl (w1.heap.size + 1) W2).alloc (by omega) (.cells #[] 3)).alloc (by simp; omega) (.cells #[.slice (some ⟨w1.heap.size + 1, 0, none⟩) 0 0] 22))
      have hsz : ((W2.alloc (.cells #[] 3)).alloc (.cells #[.slice (some ⟨w1.heap.size + 1, 0, none⟩) 0 0] 22)).heap.size = w1.heap.size + 3 := by simp [hsW]
      simp only [World.size_alloc, hsW] at bO hr0
      generalize (W2.alloc (.cells #[] 3)).alloc (.cells #[.slice (some ⟨w1.heap.size + 1, 0, none⟩) 0 0] 22) = W0 at bN bO hr0 hbW hsz s0 ⊢
      refine rangeFunc1 (enc := fun x : Int => Value.int .i64 x) (by omega) (gf := 45) (lb := #[.pointer (some ⟨w1.heap.size, 0, none⟩)]) rfl (enters_of Try.func45 (by kernel_rfl) rfl)
        (values_stops 4 (by omega) w1.heap.size (w1.heap.size + 1) _ zs (by omega) W0 (by omega) (by omega) bN.cell s0) belowK_t (belowK_b (by omega)) (Below.refl _ _) (by simp)
        (fun pre W => (∃ x, Boxed W (w1.heap.size + 1 + 1) 22 x ∧ W.ownsRow (w1.heap.size + 1) 3 1 x pre.length (pre.map (Value.int .i64)) ∧ True) ∧ Below w.heap.size w W)
        (fun _ _ _ => False)
        (OwnFrom.and (Own.from (holdsRow_own _ _ _ _ 1 (fun pre : List Int => pre.length) (fun pre => pre.map (Value.int .i64)) (fun _ _ => True)) _) (ownFrom_below (Nat.le_refl _) (by omega)))
        (fun _ _ _ _ _ hs _ _ => hs)
        ⟨⟨_, bO, hr0, trivial⟩, hbW⟩ ?body ?done ?stop
      case body =>
        rintro l pre x W ⟨⟨u, hv, hrow, _⟩, hB⟩ hlt
        obtain ⟨A', c', rfl, _⟩ := own_form hrow
        have hcv := hv.cell
        have hfv := hv.frozen
        have hm := hv.lt
        have hlt' : pre.length < zs.length := by omega
        clear hlt
        gi_wp2_with (gi_at_builtin; refine wpListIn_append_own _ rfl _ _ 22 rfl (w1.heap.size + 1) 3 i0 (.int .i64 0) 1 8 Try.underlying22 hi hz0 hz1 hz2 rfl (by decide) _ _ _ rfl (hrow.alloc _) ⟨W.heap.size, 0, none⟩ 1 1 [.int .i64 x] rfl rfl (cell_one_new _ _ _) (by simp [Value.oneCell']) (by unfold maxLen; omega) (by omega) (by simp; omega) ?_; intro v' w2 hown' hgrow _; obtain ⟨g', cap', rfl⟩ := ownsRow_succ hown'; obtain ⟨hv1, hv2, hr2, hk2, hb2⟩ := hv.appended (by decide) hrow (by omega) (by omega) hown' hgrow; have hc1 := hv1.cell; have hf1 := hv1.frozen)
        exact ⟨hk2.from _, hb2, ⟨_, hv2, by simpa using hr2, trivial⟩, hB.trans (hb2.mono (by omega))⟩
      case done =>
        rintro D ys W hD rfl ⟨⟨u, hv, hrow, _⟩, hB⟩ hK
        obtain ⟨A', c', rfl, _⟩ := own_form hrow
        have hcv := hv.cell
        gi_wp2
        refine ⟨by simp, .inl ⟨_, _, rfl, run_takeDeferred hK, ?_⟩⟩
        exact ⟨_, results_tmp rfl _ _ _, _, rfl, own_base (ownsRow_putObj hrow _ hK rfl) (by omega), hB.trans (belowK_b (w := w) (Nat.le_refl _) W D _ _ (by omega) hK rfl rfl)⟩
      case stop =>
        rintro D cd pre W _ _ h _
        exact h.elim
    · have h2 : decide (0 ≤ at_) = false := by simpa using h1
      clear h0
      gi_wp2_with (first
        | (gi_at_builtin; refine wpListIn_append_sees _ rfl (.tmp 11) (.tmp 12) 22 rfl w.heap.size 3 i0 (.int .i64 0) 1 8 Try.underlying22 hi hz0 hz1 hz2 rfl (by decide) (.slice (some ⟨w.heap.size, 0, none⟩) 0 0) 0 [] rfl hown0 _ _ _ _ rfl ha0 (int_cell _) (by unfold maxLen; omega) (by omega) (by simp) ?_; intro v1 w1 hown1 hg1 _ _; have hb1 := below_own hb0 hown0 hg1 (Nat.le_refl _) (by simp); rw [Nat.zero_add, List.nil_append] at hown1; have hf : ∃ A1 c1, v1 = .slice A1 zs.length c1 := (let ⟨A1, c1, e, _⟩ := own_form hown1; ⟨A1, c1, e⟩); obtain ⟨A1, c1, hv1⟩ := hf; rw [hv1] at hown1 ⊢; clear hown0 hb0 hg1)
        | (gi_at_call 37; refine (callsIn_wide.2 (values_calls _ _ _ _)).mono ?_; rintro e w' ⟨rfl, rfl⟩))
      have hs1 := hb1.size
      have hsW : (w1.alloc (.cells #[.slice A1 zs.length c1] 22)).heap.size = w1.heap.size + 1 := by simp
      have s2 := ((SeesI.own hown1).below ((Below.refl w1.heap.size w1).alloc (Nat.le_refl _) (.cells #[.slice A1 zs.length c1] 22))).more (B' := w1.heap.size + 1) (by omega)
      have bN0 := Boxed.new w1 22 (.slice A1 zs.length c1)
      have hbW2 := hb1.alloc hb1.size (.cells #[.slice A1 zs.length c1] 22)
      generalize w1.alloc (.cells #[.slice A1 zs.length c1] 22) = W2 at hsW s2 bN0 hbW2 ⊢
      have bN := (bN0.alloc (.cells #[] 3)).alloc (.cells #[.slice (some ⟨w1.heap.size + 1, 0, none⟩) 0 0] 22)
      have hr0 := (own_empty W2 (w1.heap.size + 1) 1 3 (by omega)).alloc (.cells #[.slice (some ⟨w1.heap.size + 1, 0, none⟩) 0 0] 22)
      have bO := Boxed.new (W2.alloc (.cells #[] 3)) 22 (.slice (some ⟨w1.heap.size + 1, 0, none⟩) 0 0)
      have hbW := (hbW2.alloc (by omega) (.cells #[] 3)).alloc (by simp; omega) (.cells #[.slice (some ⟨w1.heap.size + 1, 0, none⟩) 0 0] 22)
      have s0 := (s2.more (B' := w1.heap.size + 1) (by omega)).below (((Below.refl (w1.heap.size + 1) W2).alloc (by omega) (.cells #[] 3)).alloc (by simp; omega) (.cells #[.slice (some ⟨w1.heap.size + 1, 0, none⟩) 0 0] 22))
      have hsz : ((W2.alloc (.cells #[] 3)).alloc (.cells #[.slice (some ⟨w1.heap.size + 1, 0, none⟩) 0 0] 22)).heap.size = w1.heap.size + 3 := by simp [hsW]
      simp only [World.size_alloc, hsW] at bO hr0
      generalize (W2.alloc (.cells #[] 3)).alloc (.cells #[.slice (some ⟨w1.heap.size + 1, 0, none⟩) 0 0] 22) = W0 at bN bO hr0 hbW hsz s0 ⊢
      refine rangeFunc1 (enc := fun x : Int => Value.int .i64 x) (by omega) (gf := 45) (lb := #[.pointer (some ⟨w1.heap.size, 0, none⟩)]) rfl (enters_of Try.func45 (by kernel_rfl) rfl)
        (values_stops 4 (by omega) w1.heap.size (w1.heap.size + 1) _ zs (by omega) W0 (by omega) (by omega) bN.cell s0) belowK_t (belowK_b (by omega)) (Below.refl _ _) (by simp)
        (fun pre W => (∃ x, Boxed W (w1.heap.size + 1 + 1) 22 x ∧ W.ownsRow (w1.heap.size + 1) 3 1 x pre.length (pre.map (Value.int .i64)) ∧ True) ∧ Below w.heap.size w W)
        (fun _ _ _ => False)
        (OwnFrom.and (Own.from (holdsRow_own _ _ _ _ 1 (fun pre : List Int => pre.length) (fun pre => pre.map (Value.int .i64)) (fun _ _ => True)) _) (ownFrom_below (Nat.le_refl _) (by omega)))
        (fun _ _ _ _ _ hs _ _ => hs)
        ⟨⟨_, bO, hr0, trivial⟩, hbW⟩ ?body ?done ?stop
      case body =>
        rintro l pre x W ⟨⟨u, hv, hrow, _⟩, hB⟩ hlt
        obtain ⟨A', c', rfl, _⟩ := own_form hrow
        have hcv := hv.cell
        have hfv := hv.frozen
        have hm := hv.lt
        have hlt' : pre.length < zs.length := by omega
        clear hlt
        gi_wp2_with (gi_at_builtin; refine wpListIn_append_own _ rfl _ _ 22 rfl (w1.heap.size + 1) 3 i0 (.int .i64 0) 1 8 Try.underlying22 hi hz0 hz1 hz2 rfl (by decide) _ _ _ rfl (hrow.alloc _) ⟨W.heap.size, 0, none⟩ 1 1 [.int .i64 x] rfl rfl (cell_one_new _ _ _) (by simp [Value.oneCell']) (by unfold maxLen; omega) (by omega) (by simp; omega) ?_; intro v' w2 hown' hgrow _; obtain ⟨g', cap', rfl⟩ := ownsRow_succ hown'; obtain ⟨hv1, hv2, hr2, hk2, hb2⟩ := hv.appended (by decide) hrow (by omega) (by omega) hown' hgrow; have hc1 := hv1.cell; have hf1 := hv1.frozen)
        exact ⟨hk2.from _, hb2, ⟨_, hv2, by simpa using hr2, trivial⟩, hB.trans (hb2.mono (by omega))⟩
      case done =>
        rintro D ys W hD rfl ⟨⟨u, hv, hrow, _⟩, hB⟩ hK
        obtain ⟨A', c', rfl, _⟩ := own_form hrow
        have hcv := hv.cell
        gi_wp2
        refine ⟨by simp, .inl ⟨_, _, rfl, run_takeDeferred hK, ?_⟩⟩
        exact ⟨_, results_tmp rfl _ _ _, _, rfl, own_base (ownsRow_putObj hrow _ hK rfl) (by omega), hB.trans (belowK_b (w := w) (Nat.le_refl _) W D _ _ (by omega) hK rfl rfl)⟩
      case stop =>
        rintro D cd pre W _ _ h _
        exact h.elim

end Go.Proofs.Ytddlfaaeckijnaa
