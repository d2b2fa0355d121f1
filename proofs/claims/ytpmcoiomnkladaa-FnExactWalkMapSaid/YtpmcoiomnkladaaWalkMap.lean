/-
  The contract of impl.WalkMap. No statement is proved here.
-/
import Derived.Test.YtpmcoiomnkladaaMapWalked
namespace Go.Proofs.Ytpmcoiomnkladaa
open Go.RowKit Go.Shelf Go.Maps
attribute [local go_sem] Oper.semAt_some

/-- Pairs put in one after the other. -/
def putAll (xs : List (Int × Int)) : List (Int × Int) := xs.foldl (fun acc p => putP p acc) []
theorem putAll_snoc (xs : List (Int × Int)) (p : Int × Int) : putAll (xs ++ [p]) = putP p (putAll xs) := by simp [putAll, List.foldl_append]
theorem putAll_length (xs : List (Int × Int)) : (putAll xs).length = xs.length := by
  have key : ∀ (xs acc : List (Int × Int)), (xs.foldl (fun acc p => putP p acc) acc).length = acc.length + xs.length := by
    intro xs
    induction xs with
    | nil => intro acc; rfl
    | cons p xs ih => intro acc; rw [List.foldl_cons, ih, putP_length, List.length_cons]; omega
  exact (key xs []).trans (by simp)
theorem putAll_mem (xs : List (Int × Int)) (q : Int × Int) : q ∈ putAll xs ↔ q ∈ xs := by
  have key : ∀ (xs acc : List (Int × Int)), q ∈ xs.foldl (fun acc p => putP p acc) acc ↔ q ∈ acc ∨ q ∈ xs := by
    intro xs
    induction xs with
    | nil => intro acc; simp
    | cons p xs ih =>
      intro acc
      rw [List.foldl_cons, ih, putP_mem, List.mem_cons]
      constructor
      · rintro ((h | h) | h)
        · exact .inr (.inl h)
        · exact .inl h
        · exact .inr (.inr h)
      · rintro (h | h | h)
        · exact .inl (.inr h)
        · exact .inl (.inl h)
        · exact .inr h
  exact (key xs []).trans (by simp)
theorem putAll_rising {xs : List (Int × Int)} (h : (xs.map (·.1)).Nodup) : (putAll xs).Pairwise (fun a b => a.1 < b.1) := by
  have key : ∀ (xs acc : List (Int × Int)), acc.Pairwise (fun a b => a.1 < b.1) → (xs.map (·.1)).Nodup → (∀ a ∈ acc, ∀ x ∈ xs, a.1 ≠ x.1) → (xs.foldl (fun acc p => putP p acc) acc).Pairwise (fun a b => a.1 < b.1) := by
    intro xs
    induction xs with
    | nil => intro acc ha _ _; exact ha
    | cons p xs ih =>
      intro acc ha hn hd
      rw [List.map_cons, List.nodup_cons] at hn
      rw [List.foldl_cons]
      refine ih _ (putP_rising p ha (fun q hq => hd q hq p List.mem_cons_self)) hn.2 (fun a hm x hx => ?_)
      rcases (putP_mem p a acc).1 hm with e | e
      · subst e; exact fun e => hn.1 (e ▸ List.mem_map_of_mem hx)
      · exact hd a e x (List.mem_cons_of_mem _ hx)
  exact key xs [] List.Pairwise.nil h (fun a ha => by cases ha)

theorem keepsOthers_below {W W' : World} (hb : Below W.heap.size W W') : KeepsOthers W W' := ⟨hb.size, fun k _ hk _ => (hb.block k (Array.getElem?_eq_some_iff.1 hk).1).trans hk⟩
/-- A box is given a new row. -/
theorem boxed_laid {W w1 : World} {n₀ B : Nat} {t e : TypeId} {size : Nat} {v v' : Value} {m : Nat} {ys : List Value} (hv : Boxed W B t v) (hte : t ≠ e) (hn : n₀ ≤ W.heap.size) (hnB : n₀ ≤ B) (hown : w1.ownsRow W.heap.size e size v' m ys) (hb : Below W.heap.size W w1) :
    Boxed w1 B t v ∧ Boxed (w1.setCell ⟨B, 0, none⟩ v') B t v' ∧ (w1.setCell ⟨B, 0, none⟩ v').ownsRow n₀ e size v' m ys ∧ KeepsOthers W (w1.setCell ⟨B, 0, none⟩ v') ∧ Below n₀ W (w1.setCell ⟨B, 0, none⟩ v') := by
  have hv1 : Boxed w1 B t v := (hb.block B hv.lt).trans hv
  have hown' := own_base hown hn
  have hs := hb.size
  refine ⟨hv1, hv1.set v', hown'.kept (grownBy_setCell' w1 B v') (.inr (hv1.not_row hte hown').symm), (keepsOthers_below hb).trans (KeepsOthers.setCell _ _ _), ?_⟩
  exact (hb.mono hn).grown (grownBy_setCell' w1 B v') (by omega) (fun k e => by cases e; exact hnB)

/-- What impl.WalkMap hands back. -/
def WalkMapPost (w : World) (ps : List (Int × Int)) (most : Int) (e : Ending) (w' : World) : Prop :=
  ∃ v xs, e = .returned v ∧ PartOf xs (mkm ps) ∧ xs.length = min (mapU ps).length most.toNat ∧ w'.ownsRow w.heap.size 40 2 v (putAll xs).length (pcells (putAll xs)) ∧ Below w.heap.size w w'

set_option maxRecDepth 100000 in
set_option maxHeartbeats 1000000 in
/-- impl.WalkMap -/
theorem walkMap_calls (w : World) (sv : Value) (ps : List (Int × Int)) (most : Int) (hI : SeesP w w.heap.size sv ps) (hwf : Fits ps) (hz : (ps.length + 1) * 16 ≤ 140737488355328) :
    Calls Try.prog 22 #[sv, .int .i64 most] w (WalkMapPost w ps most) := by
  obtain ⟨A, c, hsv, _, _⟩ := hI.form
  have hfV : Fence.wide.fn 35 := trivial
  have hfT : Fence.wide.fn 29 := trivial
  have bM := (((Boxed.new w 3 (.int .i64 most)).alloc (.cells #[] 40)).alloc (.cells #[.slice (some ⟨w.heap.size + 1, 0, none⟩) 0 0] 22))
  have hr1 := ((own_empty (w.alloc (.cells #[.int .i64 most] 3)) (w.heap.size + 1) 2 40 (by simp)).alloc (.cells #[.slice (some ⟨w.heap.size + 1, 0, none⟩) 0 0] 22))
  have bO := (Boxed.new ((w.alloc (.cells #[.int .i64 most] 3)).alloc (.cells #[] 40)) 22 (.slice (some ⟨w.heap.size + 1, 0, none⟩) 0 0))
  have hB0 := (((Below.refl w.heap.size w).alloc (Nat.le_refl _) (.cells #[.int .i64 most] 3)).alloc (by simp) (.cells #[] 40)).alloc (by simp; omega) (.cells #[.slice (some ⟨w.heap.size + 1, 0, none⟩) 0 0] 22)
  simp only [World.size_alloc] at bO hr1
  have hsz : ((((w.alloc (.cells #[.int .i64 most] 3)).alloc (.cells #[] 40)).alloc (.cells #[.slice (some ⟨w.heap.size + 1, 0, none⟩) 0 0] 22))).heap.size = w.heap.size + 3 := by simp
  have hto := Lib.hid (fun W h => toMap_calls W w.heap.size sv ps (hI.below h) h.size hwf (by omega))
  subst hsv
  clear hI hwf
  refine (callsIn_wide (n := 5)).1 ?_
  refine callsIn_of_wp_marks Try.func22 rfl trivial ?_ rfl
  simp only [Try.ntmps22, List.size_toArray, List.length_cons, List.length_nil, Nat.reduceAdd, Nat.reduceSub, Array.replicate_succ, Array.replicate_zero, List.push_toArray, List.append_toArray, List.nil_append, List.cons_append]
  gi_wp2_with fail
  generalize ((w.alloc (.cells #[.int .i64 most] 3)).alloc (.cells #[] 40)).alloc (.cells #[.slice (some ⟨w.heap.size + 1, 0, none⟩) 0 0] 22) = W1 at bM bO hr1 hB0 hsz ⊢
  gi_wp2_with (gi_at_call 29; refine (callsIn_wide.2 (hto.out W1 hB0)).mono ?_; rintro e W2 ⟨b, rfl, hbW, hm, hb12⟩)
  have bM2 := (box_below bM hb12 (by omega)).alloc (.cells #[.map (some b)] 49)
  have bO2 := (box_below bO hb12 (by omega)).alloc (.cells #[.map (some b)] 49)
  have hr2 := (own_below hr1 hb12).alloc (.cells #[.map (some b)] 49)
  have hs12 := hb12.size
  have hbl := hm.lt
  have hB2 := (hB0.trans (hb12.mono (by omega))).alloc (by omega) (.cells #[.map (some b)] 49)
  have bN := Boxed.new W2 49 (.map (some b))
  have hm2 := hm.alloc (.cells #[.map (some b)] 49)
  have hs2 : (W2.alloc (.cells #[.map (some b)] 49)).heap.size = W2.heap.size + 1 := by simp
  clear bM bO hr1 hB0 hb12 hm
  gi_wp2_with (gi_at_call 35; refine (callsIn_wide.2 (mall_calls _ W2)).mono ?_; rintro e w' ⟨rfl, rfl⟩)
  generalize W2.alloc (.cells #[.map (some b)] 49) = W0 at bM2 bO2 hr2 hB2 bN hm2 hs2 ⊢
  obtain ⟨es0, ck0, hmap⟩ := hm2.isMap
  refine rangeFunc2 (enc := fun x : Pr => Value.int .i64 x.1.1) (enc' := fun x : Pr => Value.int .i64 x.1.2) (by omega) (gf := 45) (lb := #[.pointer (some ⟨W2.heap.size, 0, none⟩)]) rfl (enters_of Try.func45 (by kernel_rfl) rfl)
    (mall_stops 4 (by omega) W2.heap.size b ps.length (mkm ps) W0 (by omega) bN.cell hm2) keepsMap_t (keepsMap_b (by omega)) (Below.refl _ _) (by simp) (by simp) (by decide) (by decide)
    (fun pre W => (((∃ v, Boxed W (w.heap.size + 1 + 1) 22 v ∧ W.ownsRow (w.heap.size + 1) 40 2 v (putAll (pre.map (·.1))).length (pcells (putAll (pre.map (·.1)))) ∧ pre.length ≤ most.toNat) ∧ Boxed W w.heap.size 3 (.int .i64 most)) ∧ Below w.heap.size w W) ∧ W.heap[b]? = some (.map es0 ck0))
    (fun c pre W => (∃ v, Boxed W (w.heap.size + 1 + 1) 22 v ∧ W.ownsRow (w.heap.size + 1) 40 2 v (putAll (pre.dropLast.map (·.1))).length (pcells (putAll (pre.dropLast.map (·.1)))) ∧ (c = .exit 0 ∧ most ≤ (pre.dropLast.length : Int) ∧ pre.dropLast.length ≤ most.toNat)) ∧ Below w.heap.size w W)
    (OwnFrom.and (OwnFrom.and (OwnFrom.and (Own.from (holdsRow_own _ _ _ _ 2 (fun pre : List Pr => (putAll (pre.map (·.1))).length) (fun pre => pcells (putAll (pre.map (·.1)))) (fun pre _ => pre.length ≤ most.toNat)) _) (Own.from (boxed_own _ _ _) _)) (ownFrom_below (Nat.le_refl _) (by omega))) (ownFrom_block (by omega)))
    (fun c => OwnFrom.and (Own.from (holdsRow_own _ _ _ _ 2 (fun pre : List Pr => (putAll (pre.dropLast.map (·.1))).length) (fun pre => pcells (putAll (pre.dropLast.map (·.1)))) (fun pre _ => c = .exit 0 ∧ most ≤ (pre.dropLast.length : Int) ∧ pre.dropLast.length ≤ most.toNat)) _) (ownFrom_below (Nat.le_refl _) (by omega)))
    ⟨⟨⟨⟨_, bO2, hr2, Nat.zero_le _⟩, bM2⟩, hB2⟩, hmap⟩ ?body ?done ?stop
  case body =>
    rintro l pre x W ⟨⟨⟨⟨v, hv, hrow, hle⟩, hmb⟩, hB⟩, hmp⟩ hlt
    have hfP : Fence.wide.fn 36 := trivial
    have hpl : (putAll (pre.map (·.1))).length = pre.length := by rw [putAll_length, List.length_map]
    have hsn := Lib.hid (putAll_snoc (pre.map (·.1)) x.1)
    have hcv := hv.cell
    have hfv := hv.frozen
    have hcm := hmb.cell
    have Hmp := Lib.hid hmp
    have hsW := hB.size
    obtain ⟨⟨x1, x2⟩, hx1, hx2⟩ := x
    clear hmap hm2 hmp
    generalize hus : putAll (pre.map (·.1)) = us at hrow hpl hsn
    have Hus := Lib.hid hus
    clear hus
    have hp1 := Nat.le_of_eq hpl
    have hp2 := Nat.le_of_eq hpl.symm
    clear hpl
    obtain ⟨A', c', rfl, _⟩ := own_form hrow
    by_cases ht : most ≤ (us.length : Int)
    · gi_wp2
      exact ⟨KeepsFrom.refl _ _, ⟨_, hv, by rw [List.map_append, List.map_cons, List.map_nil, List.dropLast_concat, Hus.out]; exact hrow, rfl, by simp; omega, by simp; omega⟩, hB⟩
    · have hpc := Lib.hid (put_calls W W.heap.size _ us x1 x2 (SeesP.own hrow) (Nat.le_refl _) (by omega))
      gi_wp2_with (gi_at_call 36; refine (CallsIn.inRound l (callsIn_wide.2 hpc.out)).mono ?_; rintro e W3 ⟨v3, rfl, hrow3, hb3⟩; obtain ⟨A3, c3, rfl, _⟩ := own_form hrow3; obtain ⟨hv1, hv2, hr2, hk2, hb2⟩ := boxed_laid (n₀ := w.heap.size + 1) hv (by decide) (by have := hmb.lt; omega) (by omega) hrow3 hb3; have hc1 := hv1.cell; have hf1 := hv1.frozen)
      have hb4 := hb2.mono (B' := w.heap.size) (by omega)
      refine ⟨hk2.from _, keepsMap_others hb2.size hk2 Hmp.out, ⟨⟨⟨_, hv2, ?_, by simp; omega⟩, box_below hmb hb2 (by omega)⟩, hB.trans hb4⟩, hk2.same _ _ Hmp.out rfl⟩
      rw [List.map_append, List.map_cons, List.map_nil, hsn.out]
      exact hr2
  case done =>
    rintro D ys W hD ⟨xs, hS, hxs⟩ ⟨⟨⟨⟨v, hv, hrow, hle⟩, hmb⟩, hB⟩, _⟩ hK
    have hyx : ys.map (·.1) = xs := by rw [hxs, List.map_id]
    have hxl : xs.length = ys.length := by rw [← hyx, List.length_map]
    have hpw := Lib.hid (part_whole hS (most := most) (by omega))
    rw [hyx] at hrow
    clear hS hxs hyx hm2 hmap
    have Hrow := Lib.hid hrow
    obtain ⟨A', c', rfl, _⟩ := own_form hrow
    have hcv := hv.cell
    clear hrow
    gi_wp2
    refine ⟨by simp, .inl ⟨_, _, rfl, run_takeDeferred hK, ?_⟩⟩
    exact ⟨_, results_tmp rfl _ _ _, _, xs, rfl, hpw.out.1, hpw.out.2, own_base (ownsRow_putObj Hrow.out _ hK rfl) (by omega), hB.trans (belowK_b (w := w) (Nat.le_refl _) W D _ _ (by omega) hK rfl rfl)⟩
  case stop =>
    rintro D cd pre W hD ⟨xs, hP, hxs⟩ ⟨⟨v, hv, hrow, rfl, h1, h2⟩, hB⟩ hK
    have hyx : pre.dropLast.map (·.1) = xs.dropLast := by rw [List.map_dropLast, hxs, List.map_id]
    have hxl : xs.dropLast.length = pre.dropLast.length := by rw [← hyx, List.length_map]
    have hpw := Lib.hid (part_left hP (most := most) (by rw [hxl]; exact h1) (by rw [hxl]; exact h2))
    rw [hyx] at hrow
    clear hP hxs hyx h1 h2 hm2 hmap
    generalize xs.dropLast = us at hrow hxl hpw
    have Hrow := Lib.hid hrow
    obtain ⟨A', c', rfl, _⟩ := own_form hrow
    have hcv := hv.cell
    clear hrow
    gi_wp2
    refine ⟨by simp, .inl ⟨_, _, rfl, run_takeDeferred hK, ?_⟩⟩
    exact ⟨_, results_tmp rfl _ _ _, _, us, rfl, hpw.out.1, hpw.out.2, own_base (ownsRow_putObj Hrow.out _ hK rfl) (by omega), hB.trans (belowK_b (w := w) (Nat.le_refl _) W D _ _ (by omega) hK rfl rfl)⟩

end Go.Proofs.Ytpmcoiomnkladaa
