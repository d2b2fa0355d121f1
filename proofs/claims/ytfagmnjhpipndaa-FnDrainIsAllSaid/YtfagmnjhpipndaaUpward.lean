/-
  The contract of impl.upward: the numbers ascending. No statement is proved here.
-/
import Derived.Test.YtfagmnjhpipndaaUpLaw
import Derived.Test.YtfagmnjhpipndaaDrawn
import Derived.Laws.CopyOwn
namespace Go.Proofs.Ytfagmnjhpipndaa
open Go.RowKit Go.Shelf

theorem size_int : (Try.prog.info? 3).map (·.size) = some 1 := by kernel_rfl

/-- The row behind 'copy(out[m+1:], out[m:])'. -/
theorem shifted {w : World} {base g c n m : Nat} {e : TypeId} {xs : List Value} {z : Value} (hm : m ≤ n) (h : w.ownsRow base e 1 (.slice (some ⟨g, 0, none⟩) (n + 1) c) (n + 1) (xs ++ [z])) :
    ∃ cur : List Value, w.heap[g]? = some (.cells cur.toArray e (0, 0)) ∧ m + 1 + (xs.drop m).length ≤ cur.length ∧ ∀ w' : World, w'.heap[g]? = some (.cells (splice cur (m + 1) (xs.drop m)).toArray e (0, 0)) →
      w'.ownsRow base e 1 (.slice (some ⟨g, 0, none⟩) (n + 1) c) (n + 1) ((xs ++ [z]).take (m + 1) ++ xs.drop m) := by
  have hl := h.1
  rw [List.length_append, List.length_cons, List.length_nil] at hl
  rcases h.2 with ⟨h', _⟩ | ⟨g', cap, cur, h', hb, hg, hnc, hcm, hcs, htake⟩
  · simp at h'
  · simp only [Value.slice.injEq, Option.some.injEq, Addr.mk.injEq, and_true, true_and] at h'
    obtain ⟨rfl, rfl⟩ := h'
    have hcl : cur.toList.length = c := by rw [Array.length_toList, hcs]; omega
    have hdl : (xs.drop m).length = n - m := by rw [List.length_drop]; omega
    refine ⟨cur.toList, by simpa using hg, by rw [hdl, hcl]; omega, fun w' hg' => ⟨?_, .inr ⟨g, c, _, rfl, hb, hg', hnc, hcm, ?_, ?_⟩⟩⟩
    · rw [List.length_append, List.length_take, List.length_append, hdl]
      simp only [List.length_cons, List.length_nil]
      omega
    · rw [List.size_toArray, length_splice _ _ _ (by rw [hdl, hcl]; omega), hcl]; omega
    · have e1 : (xs ++ [z]).take (m + 1) = cur.toList.take (m + 1) := by
        rw [← htake, List.take_take]
        congr 1
        omega
      rw [e1]
      simp only [splice]
      rw [← List.append_assoc, List.take_append_of_le_length (by rw [List.length_append, List.length_take, hdl, hcl]; omega), List.take_of_length_le (by rw [List.length_append, List.length_take, hdl, hcl]; omega)]

theorem set_shift {α : Type} (xs : List α) (y z : α) (m : Nat) (hm : m ≤ xs.length) : ((xs ++ [y]).take (m + 1) ++ xs.drop m).set m z = xs.take m ++ [z] ++ xs.drop m := by
  have hlt : m < (xs ++ [y]).length := by simp; omega
  rw [List.take_succ_eq_append_getElem hlt, List.take_append_of_le_length hm]
  have hl : (xs.take m).length = m := by rw [List.length_take]; omega
  generalize (xs ++ [y])[m] = u
  rw [List.append_assoc, List.set_append_right _ _ (by omega), hl, Nat.sub_self]
  simp
theorem up_done {w : World} {base g c : Nat} {out : List Int} {z : Int} {m : Nat} (h : insU z out = out.take m ++ [z] ++ out.drop m) (hm : m ≤ out.length)
    (hown : w.ownsRow base 3 1 (.slice (some ⟨g, 0, none⟩) (out.length + 1) c) (out.length + 1) ((out.map (Value.int .i64) ++ [Value.int .i64 0]).take (m + 1) ++ (out.map (Value.int .i64)).drop m)) :
    (w.setCell ⟨g, m, none⟩ (.int .i64 z)).ownsRow base 3 1 (.slice (some ⟨g, 0, none⟩) (out.length + 1) c) (insU z out).length ((insU z out).map (Value.int .i64)) := by
  have hst := (hown.stored m (.int .i64 z)).1
  rw [set_shift _ _ _ _ (by rw [List.length_map]; exact hm)] at hst
  rw [insU_length, h, List.map_append, List.map_append, List.map_take, List.map_drop]
  exact hst

/-- A new cell. -/
theorem one_new (w : World) (a : Value) (t : TypeId) : ∀ (j : Nat) (u : Value), [a][j]? = some u → (w.alloc (.cells #[a] t)).cell? ((⟨w.heap.size, 0, none⟩ : Addr).add j) = some u := by
  intro j u hu
  have hn : (w.alloc (.cells #[a] t)).heap[w.heap.size]? = some (.cells #[a] t (0, 0)) := World.alloc_heap_new w _
  have hc : ∀ k, (w.alloc (.cells #[a] t)).cell? ⟨w.heap.size, k, none⟩ = #[a][k]? := by
    intro k
    unfold World.cell?
    rw [hn]
    simp
  rw [Addr.add_lit, Nat.zero_add, hc]
  simpa using hu

set_option maxRecDepth 100000 in
set_option maxHeartbeats 2000000 in
/-- impl.upward -/
theorem upward_calls (w : World) (B : Nat) (sv : Value) (zs : List Int) (hI : SeesI w B sv zs) (hB : B ≤ w.heap.size) (hz : (zs.length + 1) * 8 ≤ 140737488355328) :
    Calls Try.prog 40 #[sv] w fun e w' =>
      ∃ v, e = .returned v ∧ w'.ownsRow w.heap.size 3 1 v (upw zs).length ((upw zs).map (Value.int .i64)) ∧ Below w.heap.size w w' := by
  obtain ⟨i0, hi, hz0, hz1, hz2⟩ := info_parts Try.infoInt
  obtain ⟨A, c, rfl, _, hs⟩ := (hI.more hB).form
  have hown0 := own_empty w w.heap.size 1 3 (Nat.le_refl _)
  have hb0 := (Below.refl w.heap.size w).alloc (Nat.le_refl _) (.cells #[] 3)
  clear hI
  go_enter Try.func40, Try.ntmps40
  go_wp2
  go_loopw [3, 10] (fun v i wr => ∃ (k : Nat) (g c' : Nat) (out : List Int), k ≤ zs.length ∧ i = .int .i64 k ∧ v = .slice (some ⟨g, 0, none⟩) out.length c' ∧ out = upw (zs.take k) ∧ wr.ownsRow w.heap.size 3 1 v out.length (out.map (Value.int .i64)) ∧ Below w.heap.size w wr) (fun _ i _ => zs.length - (intOf i).toNat)
  case atStart => exact ⟨0, _, _, [], Nat.zero_le _, rfl, rfl, rfl, hown0, hb0⟩
  case round =>
    obtain ⟨k, g, c', out, hk, rfl, rfl, hout, hrow, hb⟩ := hrel
    have hbs := hb.size
    have hol : out.length ≤ k := by rw [hout, upw_length, List.length_take]; omega
    clear hown0 hb0
    by_cases hlt : k < zs.length
    · obtain ⟨b, off, rfl, hbl, hx⟩ := hs (by omega)
      have d1 := (hb.cell (p := ⟨b, off + k, none⟩) hbl).trans (hx k hlt)
      have htk := Lib.hid (take_snoc_getD zs hlt)
      clear hx hs
      generalize zs[k]?.getD 0 = z at d1 htk
      have Hout := Lib.hid hout
      clear hout
      obtain ⟨_, _, e, hcap⟩ := own_form hrow
      cases e
      have hcell := own_int hrow
      go_wp2
      go_loopw [6] (fun j wr' => ∃ (m : Nat), m ≤ out.length ∧ j = .int .i64 m ∧ UpTo out z m ∧ wr' = wr) (fun j _ => out.length - (intOf j).toNat)
      case atStart => exact ⟨0, Nat.zero_le _, rfl, fun j _ h => absurd h (Nat.not_lt_zero _), rfl⟩
      case round =>
        obtain ⟨m, hm, rfl, hup, rfl⟩ := hrel
        by_cases hml : m < out.length
        · have e1 := hcell m hml
          rw [List.getElem?_eq_getElem hml] at e1
          dsimp only [Option.getD_some] at e1
          by_cases hle : out[m] ≤ z
          · have hup' := Lib.hid (hup.step hml hle)
            clear hup hcell
            generalize out[m] = y at e1 hle
            go_wp2
            go_roundw
            case rel => exact ⟨m + 1, by omega, by go_num, hup'.out, trivial⟩
            case measure => simp [intOf]; omega
          · have hins := Lib.hid (hup.ins hm (fun _ => by omega))
            have hlt' : z < out[m] := by omega
            clear hup hcell hle
            generalize out[m] = y at e1 hlt'
            go_wp2_with (at_builtin; refine wpList_append_own _ rfl (.tmp 28) (.tmp 29) 25 rfl w.heap.size 3 i0 (.int .i64 0) 1 8 Try.underlying25 hi hz0 hz1 hz2 rfl (by decide) (.slice (some ⟨g, 0, none⟩) out.length c') out.length (out.map (Value.int .i64)) rfl (hrow.alloc _) ⟨wr.heap.size, 0, none⟩ 1 1 [.int .i64 0] rfl rfl (one_new wr (.int .i64 0) 3) (by simp [Value.oneCell']) (by unfold maxLen; omega) (by omega) (by simp; omega) ?_; intro v' w1 hown' hgrow _; obtain ⟨g1, c1, rfl⟩ := ownsRow_succ hown')
            have hb1 := below_own (hb.alloc hbs (.cells #[.int .i64 0] 3)) (hrow.alloc (.cells #[.int .i64 0] 3)) hgrow (Nat.le_refl _) (by simp; omega)
            obtain ⟨_, _, e, hc1⟩ := own_form hown'
            cases e
            have hg1 := (hown'.lt g1 rfl).1
            clear hrow hb hgrow
            obtain ⟨cur, hcur, hfit, hsh⟩ := shifted hm hown'
            have hcl : ((out.map (Value.int .i64)).drop m).length = out.length - m := by rw [List.length_drop, List.length_map]
            have hsrc : ∀ j v, ((out.map (Value.int .i64)).drop m)[j]? = some v → w1.drew.cell? ((⟨g1, m, none⟩ : Addr).add j) = some v := by
              intro j v hv
              have hj := (List.getElem?_eq_some_iff.1 hv).1
              rw [Addr.add_lit]
              show w1.cell? ⟨g1, m + j, none⟩ = some v
              rw [hown'.cellAt (m + j) (by omega), List.getElem?_append_left (by rw [List.length_map]; omega), ← List.getElem?_drop, hv]
            have hone : ∀ v ∈ (out.map (Value.int .i64)).drop m, v.oneCell' = true := fun u hu => int_cell _ u (List.mem_of_mem_drop hu)
            have hd0 : ¬ c1 = m := by omega
            obtain ⟨A1, hA1, hA1'⟩ : ∃ A1, (if c1 = m + 1 then some (⟨g1, 0, none⟩ : Addr) else some ⟨g1, m + 1, none⟩) = A1 ∧ (m < out.length → A1 = some ⟨g1, m + 1, none⟩) := ⟨_, rfl, fun h => by rw [if_neg (by omega)]⟩
            have HA1 := Lib.hid hA1'
            clear hA1'
            have m1 : (0 : Int) ≤ (m : Int) := by omega
            have m2 : (m : Int) ≤ (out.length : Int) + 1 := by omega
            have m3 : (m : Int) ≤ (c1 : Int) := by omega
            have m4 : IntKind.i64.wrap ((m : Int) + 1) = (m : Int) + 1 := IntWalk.i64_in _ (by omega)
            have m5 : (m : Int) + 1 ≤ (out.length : Int) + 1 := by omega
            have m6 : (0 : Int) ≤ (m : Int) + 1 := by omega
            have m7 : ((m : Int) + 1).toNat = m + 1 := by omega
            go_region_held3 (fun w' => Below w.heap.size w w') (first | exact below_drew hb1 | exact hb2)
              ((refine step_copy_splice rfl (.tmp 34) (.tmp 37) 25 25 (by rfl) 3 Try.underlying25 size_int A1 (some ⟨g1, m, none⟩) (out.length - m) (c1 - (m + 1)) (out.length + 1 - m) (c1 - m) (by rfl) (by rfl) g1 (m + 1) cur 3 hcur ((out.map (Value.int .i64)).drop m) (by rw [hcl]; simp only [Nat.min_def]; split <;> omega) (fun h => ⟨HA1.out (by rw [hcl] at h; omega), ⟨g1, m, none⟩, rfl, hsrc⟩) hfit hone w.heap.size w (below_drew hb1) hg1 ?_; intro w2 hg2 hb2))
            all_goals
              have hrow2 := hsh w2 hg2.out
              obtain ⟨u, hu⟩ : ∃ u, w2.cell? ⟨g1, m, none⟩ = some u := ⟨_, (hrow2.cellAt m (by omega)).trans (List.getElem?_eq_getElem (by rw [hrow2.1]; omega))⟩
              have hf2 := hrow2.frozenAt m
              have hnew := Lib.hid (up_done hins.out hm hrow2)
              have hb3 := hb2.setCell (p := ⟨g1, m, none⟩) hg1 (.int .i64 z)
              have m8 : (m : Int) < (out.length : Int) + 1 := by omega
              clear hrow2 hg2 hsrc hone hcur hfit hsh hA1 HA1 hown' m4 m7
              go_wp2
              go_roundw
              case rel =>
                obtain ⟨g3, c3, e3⟩ := own_pos hnew.out (by rw [insU_length]; omega)
                exact ⟨k + 1, g3, c3, insU z out, by omega, by go_num, e3, by rw [htk.out, upw_snoc, Hout.out], hnew.out, hb3⟩
              case measure => simp [intOf]; omega
        · have hins := Lib.hid (hup.ins hm (fun h => absurd h hml))
          have hguard : decide (m < out.length) = false := by rw [decide_eq_false_iff_not]; omega
          clear hup hcell
          go_wp2_with (at_builtin; refine wpList_append_own _ rfl (.tmp 28) (.tmp 29) 25 rfl w.heap.size 3 i0 (.int .i64 0) 1 8 Try.underlying25 hi hz0 hz1 hz2 rfl (by decide) (.slice (some ⟨g, 0, none⟩) out.length c') out.length (out.map (Value.int .i64)) rfl (hrow.alloc _) ⟨wr.heap.size, 0, none⟩ 1 1 [.int .i64 0] rfl rfl (one_new wr (.int .i64 0) 3) (by simp [Value.oneCell']) (by unfold maxLen; omega) (by omega) (by simp; omega) ?_; intro v' w1 hown' hgrow _; obtain ⟨g1, c1, rfl⟩ := ownsRow_succ hown')
          have hb1 := below_own (hb.alloc hbs (.cells #[.int .i64 0] 3)) (hrow.alloc (.cells #[.int .i64 0] 3)) hgrow (Nat.le_refl _) (by simp; omega)
          obtain ⟨_, _, e, hc1⟩ := own_form hown'
          cases e
          have hg1 := (hown'.lt g1 rfl).1
          clear hrow hb hgrow
          obtain ⟨cur, hcur, hfit, hsh⟩ := shifted hm hown'
          have hcl : ((out.map (Value.int .i64)).drop m).length = out.length - m := by rw [List.length_drop, List.length_map]
          have hsrc : ∀ j v, ((out.map (Value.int .i64)).drop m)[j]? = some v → w1.drew.cell? ((⟨g1, m, none⟩ : Addr).add j) = some v := by
            intro j v hv
            have hj := (List.getElem?_eq_some_iff.1 hv).1
            rw [Addr.add_lit]
            show w1.cell? ⟨g1, m + j, none⟩ = some v
            rw [hown'.cellAt (m + j) (by omega), List.getElem?_append_left (by rw [List.length_map]; omega), ← List.getElem?_drop, hv]
          have hone : ∀ v ∈ (out.map (Value.int .i64)).drop m, v.oneCell' = true := fun u hu => int_cell _ u (List.mem_of_mem_drop hu)
          have hd0 : ¬ c1 = m := by omega
          obtain ⟨A1, hA1, hA1'⟩ : ∃ A1, (if c1 = m + 1 then some (⟨g1, 0, none⟩ : Addr) else some ⟨g1, m + 1, none⟩) = A1 ∧ (m < out.length → A1 = some ⟨g1, m + 1, none⟩) := ⟨_, rfl, fun h => by rw [if_neg (by omega)]⟩
          have HA1 := Lib.hid hA1'
          clear hA1'
          have m1 : (0 : Int) ≤ (m : Int) := by omega
          have m2 : (m : Int) ≤ (out.length : Int) + 1 := by omega
          have m3 : (m : Int) ≤ (c1 : Int) := by omega
          have m4 : IntKind.i64.wrap ((m : Int) + 1) = (m : Int) + 1 := IntWalk.i64_in _ (by omega)
          have m5 : (m : Int) + 1 ≤ (out.length : Int) + 1 := by omega
          have m6 : (0 : Int) ≤ (m : Int) + 1 := by omega
          have m7 : ((m : Int) + 1).toNat = m + 1 := by omega
          go_region_held3 (fun w' => Below w.heap.size w w') (first | exact below_drew hb1 | exact hb2)
            ((refine step_copy_splice rfl (.tmp 34) (.tmp 37) 25 25 (by rfl) 3 Try.underlying25 size_int A1 (some ⟨g1, m, none⟩) (out.length - m) (c1 - (m + 1)) (out.length + 1 - m) (c1 - m) (by rfl) (by rfl) g1 (m + 1) cur 3 hcur ((out.map (Value.int .i64)).drop m) (by rw [hcl]; simp only [Nat.min_def]; split <;> omega) (fun h => ⟨HA1.out (by rw [hcl] at h; omega), ⟨g1, m, none⟩, rfl, hsrc⟩) hfit hone w.heap.size w (below_drew hb1) hg1 ?_; intro w2 hg2 hb2))
          all_goals
            have hrow2 := hsh w2 hg2.out
            obtain ⟨u, hu⟩ : ∃ u, w2.cell? ⟨g1, m, none⟩ = some u := ⟨_, (hrow2.cellAt m (by omega)).trans (List.getElem?_eq_getElem (by rw [hrow2.1]; omega))⟩
            have hf2 := hrow2.frozenAt m
            have hnew := Lib.hid (up_done hins.out hm hrow2)
            have hb3 := hb2.setCell (p := ⟨g1, m, none⟩) hg1 (.int .i64 z)
            have m8 : (m : Int) < (out.length : Int) + 1 := by omega
            clear hrow2 hg2 hsrc hone hcur hfit hsh hA1 HA1 hown' m4 m7
            go_wp2
            go_roundw
            case rel =>
              obtain ⟨g3, c3, e3⟩ := own_pos hnew.out (by rw [insU_length]; omega)
              exact ⟨k + 1, g3, c3, insU z out, by omega, by go_num, e3, by rw [htk.out, upw_snoc, Hout.out], hnew.out, hb3⟩
            case measure => simp [intOf]; omega
    · obtain rfl : k = zs.length := by omega
      rw [List.take_of_length_le (Nat.le_refl _)] at hout
      have Hout := Lib.hid hout
      clear hout hs
      go_wp2
      go_ret
      exact ⟨_, rfl, by rw [← Hout.out]; exact hrow, hb⟩

end Go.Proofs.Ytfagmnjhpipndaa
