/-
  The contract of impl.WalkMapValues. No statement is proved here.
-/
import Derived.Test.YtfagmnjhpipndaaMapWalked
import Derived.Test.YtfagmnjhpipndaaUpward
namespace Go.Proofs.Ytfagmnjhpipndaa
open Go.RowKit Go.Shelf Go.Maps
attribute [local go_sem] Oper.semAt_some

/-- What impl.WalkMapValues hands back. -/
def WalkMapValuesPost (w : World) (ps : List (Int × Int)) (most : Int) (e : Ending) (w' : World) : Prop :=
  ∃ v xs, e = .returned v ∧ PartOf xs (mkm ps) ∧ xs.length = min (mapU ps).length most.toNat ∧ w'.ownsRow w.heap.size 3 1 v (upw (xs.map (·.2))).length ((upw (xs.map (·.2))).map (Value.int .i64)) ∧ Below w.heap.size w w'

set_option maxRecDepth 100000 in
set_option maxHeartbeats 1000000 in
/-- impl.WalkMapValues -/
theorem walkMapValues_calls (w : World) (sv : Value) (ps : List (Int × Int)) (most : Int) (hI : SeesP w w.heap.size sv ps) (hwf : Fits ps) (hz : (ps.length + 1) * 16 ≤ 140737488355328) :
    Calls Try.prog 31 #[sv, .int .i64 most] w (WalkMapValuesPost w ps most) := by
  obtain ⟨A, c, hsv, _, _⟩ := hI.form
  obtain ⟨i0, hi, hz0, hz1, hz2⟩ := info_parts Try.infoInt
  have hfV : Fence.wide.fn 47 := trivial
  have hfT : Fence.wide.fn 38 := trivial
  have hfU : Fence.wide.fn 40 := trivial
  have bM := (((Boxed.new w 3 (.int .i64 most)).alloc (.cells #[] 3)).alloc (.cells #[.slice (some ⟨w.heap.size + 1, 0, none⟩) 0 0] 25))
  have hr1 := ((own_empty (w.alloc (.cells #[.int .i64 most] 3)) (w.heap.size + 1) 1 3 (by simp)).alloc (.cells #[.slice (some ⟨w.heap.size + 1, 0, none⟩) 0 0] 25))
  have bO := (Boxed.new ((w.alloc (.cells #[.int .i64 most] 3)).alloc (.cells #[] 3)) 25 (.slice (some ⟨w.heap.size + 1, 0, none⟩) 0 0))
  have hB0 := (((Below.refl w.heap.size w).alloc (Nat.le_refl _) (.cells #[.int .i64 most] 3)).alloc (by simp) (.cells #[] 3)).alloc (by simp; omega) (.cells #[.slice (some ⟨w.heap.size + 1, 0, none⟩) 0 0] 25)
  simp only [World.size_alloc] at bO hr1
  have hsz : ((((w.alloc (.cells #[.int .i64 most] 3)).alloc (.cells #[] 3)).alloc (.cells #[.slice (some ⟨w.heap.size + 1, 0, none⟩) 0 0] 25))).heap.size = w.heap.size + 3 := by simp
  have hto := Lib.hid (fun W h => toMap_calls W w.heap.size sv ps (hI.below h) h.size hwf (by omega))
  subst hsv
  clear hI hwf
  refine (callsIn_wide (n := 5)).1 ?_
  refine callsIn_of_wp_marks Try.func31 rfl trivial ?_ rfl
  simp only [Try.ntmps31, List.size_toArray, List.length_cons, List.length_nil, Nat.reduceAdd, Nat.reduceSub, Array.replicate_succ, Array.replicate_zero, List.push_toArray, List.append_toArray, List.nil_append, List.cons_append]
  gi_wp2_with fail
  generalize ((w.alloc (.cells #[.int .i64 most] 3)).alloc (.cells #[] 3)).alloc (.cells #[.slice (some ⟨w.heap.size + 1, 0, none⟩) 0 0] 25) = W1 at bM bO hr1 hB0 hsz ⊢
  gi_wp2_with (gi_at_call 38; refine (callsIn_wide.2 (hto.out W1 hB0)).mono ?_; rintro e W2 ⟨b, rfl, hbW, hm, hb12⟩)
  have bM2 := (box_below bM hb12 (by omega)).alloc (.cells #[.map (some b)] 57)
  have bO2 := (box_below bO hb12 (by omega)).alloc (.cells #[.map (some b)] 57)
  have hr2 := (own_below hr1 hb12).alloc (.cells #[.map (some b)] 57)
  have hs12 := hb12.size
  have hbl := hm.lt
  have hB2 := (hB0.trans (hb12.mono (by omega))).alloc (by omega) (.cells #[.map (some b)] 57)
  have bN := Boxed.new W2 57 (.map (some b))
  have hm2 := hm.alloc (.cells #[.map (some b)] 57)
  have hs2 : (W2.alloc (.cells #[.map (some b)] 57)).heap.size = W2.heap.size + 1 := by simp
  clear bM bO hr1 hB0 hb12 hm
  gi_wp2_with (gi_at_call 47; refine (callsIn_wide.2 (mvals_calls _ W2)).mono ?_; rintro e w' ⟨rfl, rfl⟩)
  generalize W2.alloc (.cells #[.map (some b)] 57) = W0 at bM2 bO2 hr2 hB2 bN hm2 hs2 ⊢
  obtain ⟨es0, ck0, hmap⟩ := hm2.isMap
  refine rangeFunc1 (enc := fun x : Int => Value.int .i64 x) (by omega) (gf := 67) (lb := #[.pointer (some ⟨W2.heap.size, 0, none⟩)]) rfl (enters_of Try.func67 (by kernel_rfl) rfl)
    (mvals_stops 4 (by omega) W2.heap.size b ps.length (mkm ps) W0 (by omega) bN.cell hm2) keepsMap_t (keepsMap_b (by omega)) (Below.refl _ _) (by simp)
    (fun pre W => (((∃ v, Boxed W (w.heap.size + 1 + 1) 25 v ∧ W.ownsRow (w.heap.size + 1) 3 1 v pre.length (pre.map (Value.int .i64)) ∧ pre.length ≤ most.toNat) ∧ Boxed W w.heap.size 3 (.int .i64 most)) ∧ Below w.heap.size w W) ∧ W.heap[b]? = some (.map es0 ck0))
    (fun c pre W => (∃ v, Boxed W (w.heap.size + 1 + 1) 25 v ∧ W.ownsRow (w.heap.size + 1) 3 1 v pre.dropLast.length (pre.dropLast.map (Value.int .i64)) ∧ (c = .exit 0 ∧ most ≤ (pre.dropLast.length : Int) ∧ pre.dropLast.length ≤ most.toNat)) ∧ Below w.heap.size w W)
    (OwnFrom.and (OwnFrom.and (OwnFrom.and (Own.from (holdsRow_own _ _ _ _ 1 (fun pre : List Int => pre.length) (fun pre => pre.map (Value.int .i64)) (fun pre _ => pre.length ≤ most.toNat)) _) (Own.from (boxed_own _ _ _) _)) (ownFrom_below (Nat.le_refl _) (by omega))) (ownFrom_block (by omega)))
    (fun c => OwnFrom.and (Own.from (holdsRow_own _ _ _ _ 1 (fun pre : List Int => pre.dropLast.length) (fun pre => pre.dropLast.map (Value.int .i64)) (fun pre _ => c = .exit 0 ∧ most ≤ (pre.dropLast.length : Int) ∧ pre.dropLast.length ≤ most.toNat)) _) (ownFrom_below (Nat.le_refl _) (by omega)))
    ⟨⟨⟨⟨_, bO2, hr2, Nat.zero_le _⟩, bM2⟩, hB2⟩, hmap⟩ ?body ?done ?stop
  case body =>
    rintro l pre x W ⟨⟨⟨⟨v, hv, hrow, hle⟩, hmb⟩, hB⟩, hmp⟩ hlt
    obtain ⟨A', c', rfl, _⟩ := own_form hrow
    have hcv := hv.cell
    have hfv := hv.frozen
    have hcm := hmb.cell
    clear hmap hm2
    by_cases ht : most ≤ (pre.length : Int)
    · gi_wp2
      exact ⟨KeepsFrom.refl _ _, ⟨_, hv, by simpa using hrow, rfl, by simpa using ht, by simpa using hle⟩, hB⟩
    · have Hmp := Lib.hid hmp
      clear hmp
      gi_wp2_with (gi_at_builtin; refine wpListIn_append_own _ rfl _ _ 25 rfl (w.heap.size + 1) 3 i0 (.int .i64 0) 1 8 Try.underlying25 hi hz0 hz1 hz2 rfl (by decide) _ _ _ rfl (hrow.alloc _) ⟨W.heap.size, 0, none⟩ 1 1 [.int .i64 x] rfl rfl (cell_one_new _ _ _) (by simp [Value.oneCell']) (by unfold maxLen; omega) (by omega) (by have := hmb.lt; simp; omega) ?_; intro v' w1 hown' hgrow _; obtain ⟨g', cap', rfl⟩ := ownsRow_succ hown'; obtain ⟨hv1, hv2, hr2, hk2, hb2⟩ := hv.appended (by decide) hrow hmb.lt (by omega) hown' hgrow; have hc1 := hv1.cell; have hf1 := hv1.frozen)
      have hb3 := hb2.mono (B' := w.heap.size) (by omega)
      refine ⟨hk2.from _, keepsMap_others hb2.size hk2 Hmp.out, ⟨⟨⟨_, hv2, by simpa using hr2, by simp; omega⟩, box_below hmb hb2 (by omega)⟩, hB.trans hb3⟩, hk2.same _ _ Hmp.out rfl⟩
  case done =>
    rintro D ys W hD ⟨xs, hS, hxs⟩ ⟨⟨⟨⟨v, hv, hrow, hle⟩, hmb⟩, hB⟩, _⟩ hK
    have hyx : ys = xs.map (·.2) := by rw [← hxs, List.map_id]
    have hxl : xs.length = ys.length := by rw [hyx, List.length_map]
    have hpw := Lib.hid (part_whole hS (most := most) (by omega))
    have hpl := part_le hS.part
    have hml := mapU_length ps
    have Hyx := Lib.hid hyx
    clear hS hxs hyx hm2 hmap
    obtain ⟨A', c', rfl, _⟩ := own_form hrow
    have hcv := hv.cell
    have hup := Lib.hid (upward_calls W W.heap.size _ ys (SeesI.own hrow) (Nat.le_refl _) (by omega))
    have hDl := (Array.getElem?_eq_some_iff.1 hK).1
    gi_wp2_with (gi_at_call 40; refine (callsIn_wide.2 hup.out).mono ?_; rintro e W4 ⟨v4, rfl, h4, hb4⟩)
    have hK4 : W4.heap[D]? = some (.deferred (some [])) := (hb4.block D hDl).trans hK
    have hs4 := hB.size
    refine ⟨by simp, .inl ⟨_, _, rfl, run_takeDeferred hK4, ?_⟩⟩
    rw [Hyx.out] at h4
    exact ⟨_, results_tmp rfl _ _ _, v4, xs, rfl, hpw.out.1, hpw.out.2, own_base (ownsRow_putObj h4 _ hK4 rfl) (by omega), (hB.trans (hb4.mono (by omega))).trans (belowK_b (w := w) (Nat.le_refl _) W4 D _ _ (by omega) hK4 rfl rfl)⟩
  case stop =>
    rintro D cd pre W hD ⟨xs, hP, hxs⟩ ⟨⟨v, hv, hrow, rfl, h1, h2⟩, hB⟩ hK
    have hyx : pre.dropLast = xs.dropLast.map (·.2) := by rw [show pre = xs.map (·.2) by rw [← hxs, List.map_id], List.map_dropLast]
    have hxl : xs.dropLast.length = pre.dropLast.length := by rw [hyx, List.length_map]
    have hpw := Lib.hid (part_left hP (most := most) (by rw [hxl]; exact h1) (by rw [hxl]; exact h2))
    have hpl := part_le hpw.out.1
    have hml := mapU_length ps
    have Hyx := Lib.hid hyx
    clear hP hxs hyx h1 h2 hm2 hmap
    generalize pre.dropLast = ini at hrow Hyx hxl
    generalize xs.dropLast = us at Hyx hxl hpw hpl
    obtain ⟨A', c', rfl, _⟩ := own_form hrow
    have hcv := hv.cell
    have hup := Lib.hid (upward_calls W W.heap.size _ ini (SeesI.own hrow) (Nat.le_refl _) (by omega))
    have hDl := (Array.getElem?_eq_some_iff.1 hK).1
    gi_wp2_with (gi_at_call 40; refine (callsIn_wide.2 hup.out).mono ?_; rintro e W4 ⟨v4, rfl, h4, hb4⟩)
    have hK4 : W4.heap[D]? = some (.deferred (some [])) := (hb4.block D hDl).trans hK
    have hs4 := hB.size
    refine ⟨by simp, .inl ⟨_, _, rfl, run_takeDeferred hK4, ?_⟩⟩
    rw [Hyx.out] at h4
    exact ⟨_, results_tmp rfl _ _ _, v4, us, rfl, hpw.out.1, hpw.out.2, own_base (ownsRow_putObj h4 _ hK4 rfl) (by omega), (hB.trans (hb4.mono (by omega))).trans (belowK_b (w := w) (Nat.le_refl _) W4 D _ _ (by omega) hK4 rfl rfl)⟩

end Go.Proofs.Ytfagmnjhpipndaa
