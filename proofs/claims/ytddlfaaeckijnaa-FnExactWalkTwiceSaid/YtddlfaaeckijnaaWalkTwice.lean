/-
  The contract of impl.WalkTwice: the first elements, and then all of them from the beginning. No statement is proved here.
-/
import Derived.Test.YtddlfaaeckijnaaWalkValues
import Derived.Test.YtddlfaaeckijnaaRange
import Derived.Sort.QuietIn
namespace Go.Proofs.Ytddlfaaeckijnaa
open Go.RowKit Go.Shelf
attribute [local go_sem] Oper.semAt_some

set_option maxRecDepth 100000 in
set_option maxHeartbeats 2000000 in
/-- impl.WalkTwice -/
theorem walkTwice_calls (w : World) (sv : Value) (zs : List Int) (most : Int) (hI : SeesI w w.heap.size sv zs) (hz : zs.length * 8 ≤ 140737488351232) :
    Calls Try.prog 32 #[sv, .int .i64 most] w fun e w' =>
      ∃ a b, e = .returned (.tuple #[a, b]) ∧ SeesI w' w'.heap.size a (zs.take most.toNat) ∧ SeesI w' w'.heap.size b zs ∧ Below w.heap.size w w' := by
  obtain ⟨A, c, rfl, _, _⟩ := hI.form
  obtain ⟨i0, hi, hz0, hz1, hz2⟩ := info_parts Try.infoInt
  have hfV : Fence.wide.fn 37 := trivial
  refine (callsIn_wide (n := 5)).1 ?_
  refine callsIn_of_wp_marks Try.func32 rfl trivial ?_ rfl
  simp only [Try.ntmps32, List.size_toArray, List.length_cons, List.length_nil, Nat.reduceAdd, Nat.reduceSub, Array.replicate_succ, Array.replicate_zero, List.push_toArray, List.append_toArray, List.nil_append, List.cons_append]
  gi_wp2_with (gi_at_call 37; refine (callsIn_wide.2 (values_calls _ _ _ _)).mono ?_; rintro e w' ⟨rfl, rfl⟩)
  have bM := (((Boxed.new w 3 (.int .i64 most)).alloc (.cells #[.slice A zs.length c] 22)).alloc (.cells #[] 3)).alloc (.cells #[.slice (some ⟨w.heap.size + 1 + 1, 0, none⟩) 0 0] 22)
  have bN := ((Boxed.new (w.alloc (.cells #[.int .i64 most] 3)) 22 (.slice A zs.length c)).alloc (.cells #[] 3)).alloc (.cells #[.slice (some ⟨w.heap.size + 1 + 1, 0, none⟩) 0 0] 22)
  have hr1 := (own_empty ((w.alloc (.cells #[.int .i64 most] 3)).alloc (.cells #[.slice A zs.length c] 22)) (w.heap.size + 1 + 1) 1 3 (by simp)).alloc (.cells #[.slice (some ⟨w.heap.size + 1 + 1, 0, none⟩) 0 0] 22)
  have bO := Boxed.new (((w.alloc (.cells #[.int .i64 most] 3)).alloc (.cells #[.slice A zs.length c] 22)).alloc (.cells #[] 3)) 22 (.slice (some ⟨w.heap.size + 1 + 1, 0, none⟩) 0 0)
  have hB0 := ((((Below.refl w.heap.size w).alloc (Nat.le_refl _) (.cells #[.int .i64 most] 3)).alloc (by simp) (.cells #[.slice A zs.length c] 22)).alloc (by simp; omega) (.cells #[] 3)).alloc (by simp; omega) (.cells #[.slice (some ⟨w.heap.size + 1 + 1, 0, none⟩) 0 0] 22)
  simp only [World.size_alloc] at bO bN hr1
  have hsz : ((((w.alloc (.cells #[.int .i64 most] 3)).alloc (.cells #[.slice A zs.length c] 22)).alloc (.cells #[] 3)).alloc (.cells #[.slice (some ⟨w.heap.size + 1 + 1, 0, none⟩) 0 0] 22)).heap.size = w.heap.size + 4 := by simp
  generalize (((w.alloc (.cells #[.int .i64 most] 3)).alloc (.cells #[.slice A zs.length c] 22)).alloc (.cells #[] 3)).alloc (.cells #[.slice (some ⟨w.heap.size + 1 + 1, 0, none⟩) 0 0] 22) = W0 at bM bO bN hr1 hB0 hsz ⊢
  refine rangeFunc1 (enc := fun x : Int => Value.int .i64 x) (by omega) (gf := 45) (lb := #[.pointer (some ⟨w.heap.size + 1, 0, none⟩)]) rfl (enters_of Try.func45 (by kernel_rfl) rfl)
    (values_stops 4 (by omega) (w.heap.size + 1) w.heap.size _ zs (by omega) W0 (by omega) (by omega) bN.cell (hI.below hB0)) belowK_t (belowK_b (by omega)) (Below.refl _ _) (by simp)
    (fun pre W => (∃ v, Boxed W (w.heap.size + 1 + 1 + 1) 22 v ∧ W.ownsRow (w.heap.size + 1 + 1) 3 1 v pre.length (pre.map (Value.int .i64)) ∧ pre.length ≤ most.toNat) ∧ Below (w.heap.size + 1 + 1) W0 W)
    (fun c pre W => (∃ v, Boxed W (w.heap.size + 1 + 1 + 1) 22 v ∧ W.ownsRow (w.heap.size + 1 + 1) 3 1 v pre.dropLast.length (pre.dropLast.map (Value.int .i64)) ∧ (c = .exit 0 ∧ most ≤ (pre.dropLast.length : Int) ∧ pre.dropLast.length ≤ most.toNat)) ∧ Below (w.heap.size + 1 + 1) W0 W)
    (OwnFrom.and (Own.from (holdsRow_own _ _ _ _ 1 (fun pre : List Int => pre.length) (fun pre => pre.map (Value.int .i64)) (fun pre _ => pre.length ≤ most.toNat)) _) (ownFrom_below (by omega) (by omega)))
    (fun c => OwnFrom.and (Own.from (holdsRow_own _ _ _ _ 1 (fun pre : List Int => pre.dropLast.length) (fun pre => pre.dropLast.map (Value.int .i64)) (fun pre _ => c = .exit 0 ∧ most ≤ (pre.dropLast.length : Int) ∧ pre.dropLast.length ≤ most.toNat)) _) (ownFrom_below (by omega) (by omega)))
    ⟨⟨_, bO, hr1, Nat.zero_le _⟩, Below.refl _ _⟩ ?body ?done ?stop
  case body =>
    rintro l pre x W ⟨⟨v, hv, hrow, hle⟩, hB⟩ hlt
    obtain ⟨A', c', rfl, _⟩ := own_form hrow
    have hcv := hv.cell
    have hfv := hv.frozen
    have hcm := (box_below bM hB (by omega)).cell
    have hbs := hB.size
    by_cases ht : most ≤ (pre.length : Int)
    · gi_wp2
      exact ⟨KeepsFrom.refl _ _, ⟨_, hv, by simpa using hrow, rfl, by simpa using ht, by simpa using hle⟩, hB⟩
    · gi_wp2_with (gi_at_builtin; refine wpListIn_append_own _ rfl _ _ 22 rfl (w.heap.size + 1 + 1) 3 i0 (.int .i64 0) 1 8 Try.underlying22 hi hz0 hz1 hz2 rfl (by decide) _ _ _ rfl (hrow.alloc _) ⟨W.heap.size, 0, none⟩ 1 1 [.int .i64 x] rfl rfl (cell_one_new _ _ _) (by simp [Value.oneCell']) (by unfold maxLen; omega) (by omega) (by simp; omega) ?_; intro v' w1 hown' hgrow _; obtain ⟨g', cap', rfl⟩ := ownsRow_succ hown'; obtain ⟨hv1, hv2, hr2, hk2, hb2⟩ := hv.appended (by decide) hrow (by omega) (by omega) hown' hgrow; have hc1 := hv1.cell; have hf1 := hv1.frozen)
      exact ⟨hk2.from _, hb2.mono (by omega), ⟨_, hv2, by simpa using hr2, by simp; omega⟩, hB.trans hb2⟩
  case done =>
    rintro D zs W hD rfl ⟨⟨v, hv, hrow, hle⟩, hB⟩ hK
    have Hone := Lib.hid (List.take_of_length_le (i := most.toNat) (l := zs) hle)
    obtain ⟨A', c', rfl, _⟩ := own_form hrow
    have hcv := hv.cell
    have hbs := hB.size
    have bN1 := box_below bN hB (by omega)
    have hBw := hB0.trans (hB.mono (B' := w.heap.size) (by omega))
    clear bM bO hr1
    gi_wp2
    have bN2 := (bN1.alloc (.cells #[] 3)).alloc (.cells #[.slice (some ⟨W.heap.size, 0, none⟩) 0 0] 22)
    have hr2 := (own_empty W W.heap.size 1 3 (Nat.le_refl _)).alloc (.cells #[.slice (some ⟨W.heap.size, 0, none⟩) 0 0] 22)
    have bT := Boxed.new (W.alloc (.cells #[] 3)) 22 (.slice (some ⟨W.heap.size, 0, none⟩) 0 0)
    have hB2 := ((Below.refl W.heap.size W).alloc (Nat.le_refl _) (.cells #[] 3)).alloc (by simp) (.cells #[.slice (some ⟨W.heap.size, 0, none⟩) 0 0] 22)
    have hsz2 : ((W.alloc (.cells #[] 3)).alloc (.cells #[.slice (some ⟨W.heap.size, 0, none⟩) 0 0] 22)).heap.size = W.heap.size + 2 := by simp
    simp only [World.size_alloc] at bT
    generalize (W.alloc (.cells #[] 3)).alloc (.cells #[.slice (some ⟨W.heap.size, 0, none⟩) 0 0] 22) = W2 at bN2 hr2 bT hB2 hsz2 ⊢
    refine rangeFunc1 (enc := fun x : Int => Value.int .i64 x) (by omega) (gf := 45) (lb := #[.pointer (some ⟨w.heap.size + 1, 0, none⟩)]) rfl (enters_of Try.func45 (by kernel_rfl) rfl)
      (values_stops 4 (by omega) (w.heap.size + 1) w.heap.size _ zs (by omega) W2 (by omega) (by omega) bN2.cell (hI.below (hBw.trans (hB2.mono (by omega))))) belowK_t (belowK_b (by omega)) (Below.refl _ _) (by simp)
      (fun pre W' => (∃ v, Boxed W' (W.heap.size + 1) 22 v ∧ W'.ownsRow W.heap.size 3 1 v pre.length (pre.map (Value.int .i64)) ∧ True) ∧ Below W.heap.size W W')
      (fun _ _ _ => False)
      (OwnFrom.and (Own.from (holdsRow_own _ _ _ _ 1 (fun pre : List Int => pre.length) (fun pre => pre.map (Value.int .i64)) (fun _ _ => True)) _) (ownFrom_below (Nat.le_refl _) (by omega)))
      (fun _ _ _ _ _ hs _ _ => hs)
      ⟨⟨_, bT, hr2, trivial⟩, hB2⟩ ?body2 ?done2 ?stop2
    case body2 =>
      rintro l pre' x W' ⟨⟨u, hu, hrowu, _⟩, hBu⟩ hltu
      obtain ⟨A2, c2, rfl, _⟩ := own_form hrowu
      have hcu := hu.cell
      have hfu := hu.frozen
      have hm := hu.lt
      gi_wp2_with (gi_at_builtin; refine wpListIn_append_own _ rfl _ _ 22 rfl W.heap.size 3 i0 (.int .i64 0) 1 8 Try.underlying22 hi hz0 hz1 hz2 rfl (by decide) _ _ _ rfl (hrowu.alloc _) ⟨W'.heap.size, 0, none⟩ 1 1 [.int .i64 x] rfl rfl (cell_one_new _ _ _) (by simp [Value.oneCell']) (by unfold maxLen; omega) (by omega) (by simp; omega) ?_; intro v' w2 hown' hgrow _; obtain ⟨g', cap', rfl⟩ := ownsRow_succ hown'; obtain ⟨hv1, hv2, hr3, hk2, hb2⟩ := hu.appended (by decide) hrowu (by omega) (by omega) hown' hgrow; have hc1 := hv1.cell; have hf1 := hv1.frozen)
      exact ⟨hk2.from _, hb2.mono (by omega), ⟨_, hv2, by simpa using hr3, trivial⟩, hBu.trans hb2⟩
    case done2 =>
      rintro D2 xs W3 hD2 rfl ⟨⟨u, hu, hrowu, _⟩, hBu⟩ hK2
      obtain ⟨A2, c2, rfl, _⟩ := own_form hrowu
      have hcu := hu.cell
      have hcv3 := (box_below hv hBu hv.lt).cell
      have hK1 : W3.heap[D]? = some (.deferred (some [])) := (hBu.block D (Array.getElem?_eq_some_iff.1 hK).1).trans hK
      have hDlt := (Array.getElem?_eq_some_iff.1 hK).1
      have s1 : Sees W3 W.heap.size 1 _ _ _ := Sees.below (Sees.own hrow) hBu
      have s2 : Sees W3 W3.heap.size 1 _ _ _ := Sees.own hrowu
      have hBf := hBw.trans (hBu.mono (B' := w.heap.size) (by omega))
      gi_wp2
      gi_quiet (fail)
      gi_wp2
      have hK2' : (W3.drewN nq).heap[D2]? = some (.deferred (some [])) := hK2
      have hK1' : ((W3.drewN nq).putObj D2 (.deferred none)).heap[D]? = some (.deferred (some [])) := (World.putObj_heap_other (by omega)).trans hK1
      refine ⟨by simp, .inl ⟨_, _, rfl, run_takeDeferred hK2', ⟨by simp, .inl ⟨_, _, rfl, run_takeDeferred hK1', ?_⟩⟩⟩⟩
      refine ⟨_, results_tmp2 rfl _ _ _, _, _, rfl, ?_, ?_, ?_⟩
      · rw [Hone.out]
        exact (((s1.drewN nq).putObj hK2' rfl _).putObj hK1' rfl _).more (by simp; have := hBu.size; omega)
      · exact (((s2.drewN nq).putObj hK2' rfl _).putObj hK1' rfl _).more (by simp)
      · exact ((below_drewN hBf nq).trans (belowK_b (w := w) (Nat.le_refl _) _ D2 _ _ (by omega) hK2' rfl rfl)).trans (belowK_b (w := w) (Nat.le_refl _) _ D _ _ (by omega) hK1' rfl rfl)
    case stop2 =>
      rintro _ _ _ _ _ _ h _
      exact h.elim
  case stop =>
    rintro D cd pre W hD hpre ⟨⟨v, hv, hrow, rfl, h1, h2⟩, hB⟩ hK
    have Hone := Lib.hid (take_of_cut hpre h1 h2)
    clear h1 h2 hpre
    generalize pre.dropLast = ini at hrow Hone
    obtain ⟨A', c', rfl, _⟩ := own_form hrow
    have hcv := hv.cell
    have hbs := hB.size
    have bN1 := box_below bN hB (by omega)
    have hBw := hB0.trans (hB.mono (B' := w.heap.size) (by omega))
    clear bM bO hr1
    gi_wp2
    have bN2 := (bN1.alloc (.cells #[] 3)).alloc (.cells #[.slice (some ⟨W.heap.size, 0, none⟩) 0 0] 22)
    have hr2 := (own_empty W W.heap.size 1 3 (Nat.le_refl _)).alloc (.cells #[.slice (some ⟨W.heap.size, 0, none⟩) 0 0] 22)
    have bT := Boxed.new (W.alloc (.cells #[] 3)) 22 (.slice (some ⟨W.heap.size, 0, none⟩) 0 0)
    have hB2 := ((Below.refl W.heap.size W).alloc (Nat.le_refl _) (.cells #[] 3)).alloc (by simp) (.cells #[.slice (some ⟨W.heap.size, 0, none⟩) 0 0] 22)
    have hsz2 : ((W.alloc (.cells #[] 3)).alloc (.cells #[.slice (some ⟨W.heap.size, 0, none⟩) 0 0] 22)).heap.size = W.heap.size + 2 := by simp
    simp only [World.size_alloc] at bT
    generalize (W.alloc (.cells #[] 3)).alloc (.cells #[.slice (some ⟨W.heap.size, 0, none⟩) 0 0] 22) = W2 at bN2 hr2 bT hB2 hsz2 ⊢
    refine rangeFunc1 (enc := fun x : Int => Value.int .i64 x) (by omega) (gf := 45) (lb := #[.pointer (some ⟨w.heap.size + 1, 0, none⟩)]) rfl (enters_of Try.func45 (by kernel_rfl) rfl)
      (values_stops 4 (by omega) (w.heap.size + 1) w.heap.size _ zs (by omega) W2 (by omega) (by omega) bN2.cell (hI.below (hBw.trans (hB2.mono (by omega))))) belowK_t (belowK_b (by omega)) (Below.refl _ _) (by simp)
      (fun pre W' => (∃ v, Boxed W' (W.heap.size + 1) 22 v ∧ W'.ownsRow W.heap.size 3 1 v pre.length (pre.map (Value.int .i64)) ∧ True) ∧ Below W.heap.size W W')
      (fun _ _ _ => False)
      (OwnFrom.and (Own.from (holdsRow_own _ _ _ _ 1 (fun pre : List Int => pre.length) (fun pre => pre.map (Value.int .i64)) (fun _ _ => True)) _) (ownFrom_below (Nat.le_refl _) (by omega)))
      (fun _ _ _ _ _ hs _ _ => hs)
      ⟨⟨_, bT, hr2, trivial⟩, hB2⟩ ?body3 ?done3 ?stop3
    case body3 =>
      rintro l pre' x W' ⟨⟨u, hu, hrowu, _⟩, hBu⟩ hltu
      obtain ⟨A2, c2, rfl, _⟩ := own_form hrowu
      have hcu := hu.cell
      have hfu := hu.frozen
      have hm := hu.lt
      gi_wp2_with (gi_at_builtin; refine wpListIn_append_own _ rfl _ _ 22 rfl W.heap.size 3 i0 (.int .i64 0) 1 8 Try.underlying22 hi hz0 hz1 hz2 rfl (by decide) _ _ _ rfl (hrowu.alloc _) ⟨W'.heap.size, 0, none⟩ 1 1 [.int .i64 x] rfl rfl (cell_one_new _ _ _) (by simp [Value.oneCell']) (by unfold maxLen; omega) (by omega) (by simp; omega) ?_; intro v' w2 hown' hgrow _; obtain ⟨g', cap', rfl⟩ := ownsRow_succ hown'; obtain ⟨hv1, hv2, hr3, hk2, hb2⟩ := hu.appended (by decide) hrowu (by omega) (by omega) hown' hgrow; have hc1 := hv1.cell; have hf1 := hv1.frozen)
      exact ⟨hk2.from _, hb2.mono (by omega), ⟨_, hv2, by simpa using hr3, trivial⟩, hBu.trans hb2⟩
    case done3 =>
      rintro D2 xs W3 hD2 rfl ⟨⟨u, hu, hrowu, _⟩, hBu⟩ hK2
      obtain ⟨A2, c2, rfl, _⟩ := own_form hrowu
      have hcu := hu.cell
      have hcv3 := (box_below hv hBu hv.lt).cell
      have hK1 : W3.heap[D]? = some (.deferred (some [])) := (hBu.block D (Array.getElem?_eq_some_iff.1 hK).1).trans hK
      have hDlt := (Array.getElem?_eq_some_iff.1 hK).1
      have s1 : Sees W3 W.heap.size 1 _ _ _ := Sees.below (Sees.own hrow) hBu
      have s2 : Sees W3 W3.heap.size 1 _ _ _ := Sees.own hrowu
      have hBf := hBw.trans (hBu.mono (B' := w.heap.size) (by omega))
      gi_wp2
      gi_quiet (fail)
      gi_wp2
      have hK2' : (W3.drewN nq).heap[D2]? = some (.deferred (some [])) := hK2
      have hK1' : ((W3.drewN nq).putObj D2 (.deferred none)).heap[D]? = some (.deferred (some [])) := (World.putObj_heap_other (by omega)).trans hK1
      refine ⟨by simp, .inl ⟨_, _, rfl, run_takeDeferred hK2', ⟨by simp, .inl ⟨_, _, rfl, run_takeDeferred hK1', ?_⟩⟩⟩⟩
      refine ⟨_, results_tmp2 rfl _ _ _, _, _, rfl, ?_, ?_, ?_⟩
      · rw [← Hone.out]
        exact (((s1.drewN nq).putObj hK2' rfl _).putObj hK1' rfl _).more (by simp; have := hBu.size; omega)
      · exact (((s2.drewN nq).putObj hK2' rfl _).putObj hK1' rfl _).more (by simp)
      · exact ((below_drewN hBf nq).trans (belowK_b (w := w) (Nat.le_refl _) _ D2 _ _ (by omega) hK2' rfl rfl)).trans (belowK_b (w := w) (Nat.le_refl _) _ D _ _ (by omega) hK1' rfl rfl)
    case stop3 =>
      rintro _ _ _ _ _ _ h _
      exact h.elim

end Go.Proofs.Ytddlfaaeckijnaa
