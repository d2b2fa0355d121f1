/-
  The contract of impl.DrainKeys. No statement is proved here.
-/
import Derived.Test.YtfagmnjhpipndaaDrain
import Derived.Test.YtfagmnjhpipndaaUpward
namespace Go.Proofs.Ytfagmnjhpipndaa
open Go.RowKit Go.Shelf Go.Maps
attribute [local go_sem] Oper.semAt_some

/-- What impl.DrainKeys hands back. -/
def DrainPost (w : World) (ps : List (Int × Int)) (e : Ending) (w' : World) : Prop :=
  ∃ v, e = .returned (.tuple #[v, .int .i64 0]) ∧ w'.ownsRow w.heap.size 3 1 v (keysU ps).length ((keysU ps).map (Value.int .i64)) ∧ Below w.heap.size w w'

theorem kss_cells (ss : List Wi) : ss.map (fun x : Wi => Value.int .i64 x.1) = (kss ss).map (Value.int .i64) := by simp [kss]
theorem ownFrom_mapF {β : Type} {B b nn : Nat} (hb : b < B) (g : β → FMap) : OwnFrom B (fun (s : β) W => MapF W b nn (g s)) :=
  fun _ _ _ _ hs hg hr => hs.kept hg (fun e => by have := (hr b e.symm).1; omega)
theorem dels_all {xs : List (Int × Int)} {f : FMap} (h : SeqOf xs f) (k : Int) : dels f (xs.map (·.1)) k = none := by
  cases e : dels f (xs.map (·.1)) k with
  | none => rfl
  | some v =>
    obtain ⟨h1, h2⟩ := dels_some.1 e
    exact absurd (List.mem_map.2 ⟨(k, v), (h.2 k v).2 h2, rfl⟩) h1

theorem wpIn_noPanic {c : Code} {F : Fence} {n : Nat} {P : Program} {K : Act → World → Prop} {R : Exit → Act → World → Prop} {a : Act} {w : World} (h : c.wpIn F n P (Exit.then K (fun _ _ _ => False)) a w) : c.wpIn F n P (Exit.then K R) a w :=
  wpIn_mono h (by rintro e a w h; cases e <;> first | exact h | exact h.elim)
theorem len_none {W W' : World} {b nn B : Nat} {D : DataW Unit} (hown : W.ownsMap Try.prog 3 (plainElem Try.prog 3) b nn D) (h0 : Maps.size D = 0) (hb : Below B W W') (hB : b < B) :
    (Builtin.len_ #[57] 3 #[.map (some b)]).run Try.prog W' = .ok (.int .i64 0) W' := by
  obtain ⟨es, clock, hb', rest⟩ := hown
  have h := World.ownsMap.len (w := W') (b := b) (n := nn) (D := D) (R := plainElem Try.prog 3) ⟨es, clock, (hb.block b hB).trans hb', rest⟩ Try.underlying57 3
  rw [h0] at h
  exact h

set_option maxRecDepth 100000 in
set_option maxHeartbeats 2000000 in
/-- impl.DrainKeys -/
theorem drainKeys_calls (w : World) (sv : Value) (ps : List (Int × Int)) (hI : SeesP w w.heap.size sv ps) (hwf : Fits ps) (hz : (ps.length + 1) * 16 ≤ 140737488355328) :
    Calls Try.prog 30 #[sv] w (DrainPost w ps) := by
  obtain ⟨A, c, hsv, _, _⟩ := hI.form
  obtain ⟨i0, hi, hz0, hz1, hz2⟩ := info_parts Try.infoInt
  have hfV : Fence.wide.fn 37 := trivial
  have hfT : Fence.wide.fn 38 := trivial
  have hfU : Fence.wide.fn 40 := trivial
  have hto := Lib.hid (toMap_calls w w.heap.size sv ps hI (Nat.le_refl _) hwf (by omega))
  subst hsv
  clear hI hwf
  refine (callsIn_wide (n := 5)).1 ?_
  refine callsIn_of_wp_marks Try.func30 rfl trivial ?_ rfl
  simp only [Try.ntmps30, List.size_toArray, List.length_cons, List.length_nil, Nat.reduceAdd, Nat.reduceSub, Array.replicate_succ, Array.replicate_zero, List.push_toArray, List.append_toArray, List.nil_append, List.cons_append]
  gi_wp2_with (gi_at_call 38; refine (callsIn_wide.2 hto.out).mono ?_; rintro e W1 ⟨b, rfl, hbW, hm, hb1⟩)
  have hs1 := hb1.size
  have hbl := hm.lt
  have bM := (((Boxed.new W1 57 (.map (some b))).alloc (.cells #[] 3)).alloc (.cells #[.slice (some ⟨W1.heap.size + 1, 0, none⟩) 0 0] 25))
  have hr1 := ((own_empty (W1.alloc (.cells #[.map (some b)] 57)) (W1.heap.size + 1) 1 3 (by simp)).alloc (.cells #[.slice (some ⟨W1.heap.size + 1, 0, none⟩) 0 0] 25))
  have bO := (Boxed.new ((W1.alloc (.cells #[.map (some b)] 57)).alloc (.cells #[] 3)) 25 (.slice (some ⟨W1.heap.size + 1, 0, none⟩) 0 0))
  have hB0 := ((hb1.alloc (by omega) (.cells #[.map (some b)] 57)).alloc (by simp; omega) (.cells #[] 3)).alloc (by simp; omega) (.cells #[.slice (some ⟨W1.heap.size + 1, 0, none⟩) 0 0] 25)
  have hm1 := ((hm.alloc (.cells #[.map (some b)] 57)).alloc (.cells #[] 3)).alloc (.cells #[.slice (some ⟨W1.heap.size + 1, 0, none⟩) 0 0] 25)
  simp only [World.size_alloc] at bO hr1
  have hsz : ((((W1.alloc (.cells #[.map (some b)] 57)).alloc (.cells #[] 3)).alloc (.cells #[.slice (some ⟨W1.heap.size + 1, 0, none⟩) 0 0] 25))).heap.size = W1.heap.size + 3 := by simp
  clear hm hb1
  generalize ((W1.alloc (.cells #[.map (some b)] 57)).alloc (.cells #[] 3)).alloc (.cells #[.slice (some ⟨W1.heap.size + 1, 0, none⟩) 0 0] 25) = W2 at bM bO hr1 hB0 hm1 hsz ⊢
  have bM2 := bM.alloc (.cells #[.map (some b)] 57)
  have bO2 := bO.alloc (.cells #[.map (some b)] 57)
  have hr2 := hr1.alloc (.cells #[.map (some b)] 57)
  have hB2 := hB0.alloc (by omega) (.cells #[.map (some b)] 57)
  have bN := Boxed.new W2 57 (.map (some b))
  have hm2 := hm1.alloc (.cells #[.map (some b)] 57)
  have hs2 : (W2.alloc (.cells #[.map (some b)] 57)).heap.size = W2.heap.size + 1 := by simp
  have hs2' := Lib.hid hs2
  have Hsz := Lib.hid hsz
  clear bO hr1 hB0 hm1 hsz hs2
  have hcM := bM.cell
  gi_wp2_with (gi_at_call 37; refine (callsIn_wide.2 (mkeys_calls _ W2)).mono ?_; rintro e w' ⟨rfl, rfl⟩)
  clear bM hcM
  have hsz := Hsz.out
  have hs2 := hs2'.out
  clear hs2'
  generalize W2.alloc (.cells #[.map (some b)] 57) = W0 at bM2 bO2 hr2 hB2 bN hm2 hs2 ⊢
  have ownA := holdsRow_own (W1.heap.size + 1) (W1.heap.size + 1 + 1) 25 3 1 (fun pre : List Wi => pre.length) (fun pre => pre.map (fun x : Wi => Value.int .i64 x.1)) (fun _ _ => True)
  refine rangeMeets (enc := fun x : Wi => Value.int .i64 x.1) (by omega) (gf := 61) (lb := #[.pointer (some ⟨W2.heap.size, 0, none⟩)]) rfl (enters_of Try.func61 (by kernel_rfl) rfl)
    (mkeys_meets 4 (by omega) W2.heap.size b ps.length (mkm ps) W0 (by omega) bN.cell hm2)
    (fun x W W' l o o' hl h1 h2 h3 hk => hk.ahead (keepsMap_b (w := W0) (by omega) W l o o' hl h1 h2 h3))
    (fun x W W' l o o' hl h1 h2 h3 hk => hk.behind (keepsMap_b (w := W0) (by omega) W' l o o' hl h1 h2 h3)) (Below.refl _ _) (by simp)
    (fun pre W => (((∃ v, Boxed W (W1.heap.size + 1 + 1) 25 v ∧ W.ownsRow (W1.heap.size + 1) 3 1 v pre.length (pre.map (fun x : Wi => Value.int .i64 x.1)) ∧ True) ∧ Boxed W W1.heap.size 57 (.map (some b))) ∧ Below w.heap.size w W) ∧ MapF W b ps.length (dels (mkm ps) (kss pre)))
    (OwnFrom.and (OwnFrom.and (OwnFrom.and (Own.from ownA _) (Own.from (boxed_own _ _ _) _)) (ownFrom_below (Nat.le_refl _) (by omega))) (ownFrom_mapF (by omega) (fun pre : List Wi => dels (mkm ps) (kss pre))))
    ⟨⟨⟨⟨_, bO2, hr2, trivial⟩, bM2⟩, hB2⟩, by rw [show kss [] = [] from rfl, dels_nil]; exact hm2⟩ ?body ?done
  case body =>
    rintro l pre x W ⟨⟨⟨⟨v, hv, hrow, _⟩, hmb⟩, hB⟩, hF⟩ hlt
    have hFs := Lib.hid hF
    obtain ⟨es, ck, hmp⟩ := hF.isMap
    have Hmp := Lib.hid hmp
    have hFl := hF.lt
    clear hF hmp
    obtain ⟨A', c', rfl, _⟩ := own_form hrow
    have hcv := hv.cell
    have hfv := hv.frozen
    have hml := hmb.lt
    have hvl := hv.lt
    clear hm2
    gi_wp2_with (gi_at_builtin; refine wpListIn_append_own _ rfl _ _ 25 rfl (W1.heap.size + 1) 3 i0 (.int .i64 0) 1 8 Try.underlying25 hi hz0 hz1 hz2 rfl (by decide) _ _ _ rfl (hrow.alloc _) ⟨W.heap.size, 0, none⟩ 1 1 [.int .i64 x.1] rfl rfl (cell_one_new _ _ _) (by simp [Value.oneCell']) (by unfold maxLen; omega) (by omega) (by simp; omega) ?_; intro v' w1 hown' hgrow _; obtain ⟨g', cap', rfl⟩ := ownsRow_succ hown'; obtain ⟨hv1, hv2, hr2, hk2, hb2⟩ := hv.appended (by decide) hrow (by omega) (by omega) hown' hgrow; have hc1 := hv1.cell; have hf1 := hv1.frozen; have hmb2 := box_below hmb hb2 (by omega); have hcm2 := hmb2.cell)
    obtain ⟨D, hown, hview⟩ := hFs.out.below hb2 (by omega)
    obtain ⟨W4, hrun, hown4, hturn⟩ := hown.drop kInt Try.underlying57 (keyOf_int_mk Try.underlying3 x.2) 0
    have hb3 := hb2.mono (B' := w.heap.size) (by have := hB.size; omega)
    have hs3 := hb2.size
    have hmp2 := hk2.same b _ Hmp.out rfl
    have hrow4 := ownA (pre ++ [x]) _ W4 (some b) ⟨_, hv2, by simpa using hr2, trivial⟩ hturn.grown (fun r e => by cases e; exact ⟨_, hmp2, rfl⟩)
    have hmb4 := boxed_own (β := List Wi) W1.heap.size 57 (fun _ => .map (some b)) (pre ++ [x]) _ W4 (some b) hmb2 hturn.grown (fun r e => by cases e; exact ⟨_, hmp2, rfl⟩)
    have hB4 := (hB.trans hb3).grown hturn.grown (by have := hB.size; omega) (fun k e => by cases e; exact hbW)
    have hk4 : KeepsFrom W0.heap.size _ W4 := (hk2.from _).trans (KeepsFrom.of_grownBy hturn.grown (fun j e => by cases e; omega))
    have hd4 : Drained b x.1 W W4 := ⟨_, _, _, keepsMap_others hs3 hk2 Hmp.out, hrun, KeepsMap.refl _ _⟩
    have hv4 := hview.del x.1
    gi_wp2_with (gi_at_builtin; refine wpListIn_delete_at rfl _ _ _ _ rfl rfl rfl hrun ?_)
    exact ⟨hk4, hd4, ⟨⟨hrow4, hmb4⟩, hB4⟩, _, hown4, by rw [kss_snoc]; exact hv4⟩
  case done =>
    rintro D ys W hD ⟨xs, hS, hxs⟩ ⟨⟨⟨⟨v, hv, hrow, _⟩, hmb⟩, hB⟩, hF⟩ hK
    rw [kss_cells, ← kss_length] at hrow
    have hku := Lib.hid (keys_upw hS (ys := kss ys) (by rw [List.map_id]; exact hxs))
    have hxl : (kss ys).length ≤ ps.length := by
      have h1 := seq_length hS
      have := mapU_length ps
      rw [hxs, List.length_map]
      omega
    obtain ⟨E, hown, hview⟩ := hF
    have hsz0 := size_none hown hview (fun k => by rw [hxs]; exact dels_all hS k)
    have hFl := hown.lt
    clear hS hxs hview hm2
    generalize kss ys = zs at hrow hku hxl
    obtain ⟨A', c', rfl, _⟩ := own_form hrow
    have hcv := hv.cell
    have hcm := hmb.cell
    have hml := hmb.lt
    have hup := Lib.hid (upward_calls W.drew W.drew.heap.size _ zs ((SeesI.own hrow).drewN 1) (Nat.le_refl _) (by omega))
    have hDl := (Array.getElem?_eq_some_iff.1 hK).1
    have hlen := Lib.hid (fun W' h => len_none (W' := W') hown hsz0 h hFl)
    have hmix : Try.prog.follows .mixedOrders = true := by kernel_rfl
    gi_wp2_with fail
    refine wpIn_noPanic ?_
    gi_region_with_o (gi_at_call 40; refine (callsIn_wide.2 hup.out).mono ?_; rintro e W4 ⟨v4, rfl, h4, hb4⟩; have hcm4 := (hb4.cell (p := ⟨W1.heap.size, 0, none⟩) hml).trans hcm; have hbW4 : Below W.heap.size W W4 := (below_drew (Below.refl _ W)).trans hb4; have hlen4 := hlen.out W4 hbW4)
    all_goals (
      have hK4 : W4.heap[D]? = some (.deferred (some [])) := (hbW4.block D hDl).trans hK
      have hs4 := hB.size
      gi_wp2
      refine ⟨by simp, .inl ⟨_, _, rfl, run_takeDeferred hK4, ?_⟩⟩
      rw [hku.out] at h4
      exact ⟨_, results_tmp2 rfl _ _ _, v4, rfl, own_base (ownsRow_putObj h4 _ hK4 rfl) (by simp; omega), (hB.trans (hbW4.mono (by omega))).trans (belowK_b (w := w) (Nat.le_refl _) W4 D _ _ (by omega) hK4 rfl rfl)⟩)

end Go.Proofs.Ytfagmnjhpipndaa
