/-
  The contracts of impl.put and impl.toPairs: the pairs of a map by ascending keys. No statement is proved here.
-/
import Derived.Test.YtfagmnjhpipndaaMapIter
namespace Go.Proofs.Ytfagmnjhpipndaa
open Go.RowKit Go.Shelf Go.Maps

/-- As far as impl.put's loop has come: what is put together, and whether p is among it. -/
def PutTo (p : Int × Int) (l : List (Int × Int)) (d : Bool) (out : List (Int × Int)) : Prop := (d = true ∧ anyAfter p l = true ∧ out = putP p l) ∨ (d = false ∧ anyAfter p l = false ∧ out = l)

theorem two_cell1 {w : World} {g : Nat} {a b : Value} {t : TypeId} (h : w.heap[g]? = some (.cells #[a, b] t (0, 0))) : w.cell? ⟨g, 0, none⟩ = some a := by simp [World.cell?, h]
theorem two_cell2 {w : World} {g : Nat} {a b : Value} {t : TypeId} (h : w.heap[g]? = some (.cells #[a, b] t (0, 0))) : w.cell? ⟨g, 1, none⟩ = some b := by simp [World.cell?, h]

set_option maxRecDepth 100000 in
set_option maxHeartbeats 2000000 in
/-- impl.put -/
theorem put_calls (w : World) (B : Nat) (sv : Value) (ps : List (Int × Int)) (p1 p2 : Int) (hI : SeesP w B sv ps) (hB : B ≤ w.heap.size) (hz : (ps.length + 1) * 16 ≤ 140737488355328) :
    Calls Try.prog 51 #[sv, .agg #[.int .i64 p1, .int .i64 p2]] w fun e w' =>
      ∃ v, e = .returned v ∧ w'.ownsRow w.heap.size 32 2 v (putP (p1, p2) ps).length (pcells (putP (p1, p2) ps)) ∧ Below w.heap.size w w' := by
  obtain ⟨i0, hi, hz0, hz1, hz2⟩ := info_parts Try.infoPair
  obtain ⟨A, c, rfl, _, hs⟩ := (hI.more hB).form
  have hbP := (Below.refl w.heap.size w).alloc (Nat.le_refl _) (.cells #[.int .i64 p1, .int .i64 p2] 32)
  have hcp1 := pair_new w (.int .i64 p1) (.int .i64 p2) 32 0 _ rfl
  have hcp2 := pair_new w (.int .i64 p1) (.int .i64 p2) 32 1 _ rfl
  have hown0 := own_empty (w.alloc (.cells #[.int .i64 p1, .int .i64 p2] 32)) (w.heap.size + 1) 2 32 (by simp)
  have hb0 := (Below.refl (w.heap.size + 1) (w.alloc (.cells #[.int .i64 p1, .int .i64 p2] 32))).alloc (by simp) (.cells #[] 32)
  rw [Addr.add_lit] at hcp1 hcp2
  simp only [World.size_alloc, Nat.add_zero, Nat.zero_add] at hown0 hcp1 hcp2
  clear hI
  go_enter Try.func51, Try.ntmps51
  go_wp2
  have hWs : (w.alloc (.cells #[.int .i64 p1, .int .i64 p2] 32)).heap.size = w.heap.size + 1 := by simp
  generalize w.alloc (.cells #[.int .i64 p1, .int .i64 p2] 32) = W1 at hbP hcp1 hcp2 hown0 hb0 hWs ⊢
  go_loopw [5, 6, 12] (fun v dn i wr => ∃ (k : Nat) (d : Bool) (out : List (Int × Int)), k ≤ ps.length ∧ i = .int .i64 k ∧ dn = .bool d ∧ PutTo (p1, p2) (ps.take k) d out ∧ wr.ownsRow (w.heap.size + 1) 32 2 v out.length (pcells out) ∧ Below (w.heap.size + 1) W1 wr) (fun _ _ i _ => ps.length - (intOf i).toNat)
  case atStart => exact ⟨0, false, [], Nat.zero_le _, rfl, rfl, .inr ⟨rfl, rfl, rfl⟩, hown0, hb0⟩
  case round =>
    obtain ⟨k, d, out, hk, rfl, rfl, hput, hrow, hb⟩ := hrel
    have hbs := hb.size
    have hc1 := (hb.cell (p := ⟨w.heap.size, 0, none⟩) (by show w.heap.size < _; omega)).trans hcp1
    have hc2 := (hb.cell (p := ⟨w.heap.size, 1, none⟩) (by show w.heap.size < _; omega)).trans hcp2
    have hol : out.length ≤ k + 1 := by
      rcases hput with ⟨_, _, rfl⟩ | ⟨_, _, rfl⟩
      · rw [putP_length, List.length_take]; omega
      · rw [List.length_take]; omega
    clear hown0 hb0 hcp1 hcp2
    obtain ⟨A', c', rfl, _⟩ := own_form hrow
    by_cases hlt : k < ps.length
    · obtain ⟨b, off, rfl, hbl, hx⟩ := hs (by omega)
      obtain ⟨x1, x2⟩ := hx k hlt
      have d1 := (hb.cell (p := ⟨b, off + k * 2, none⟩) (by show b < _; omega)).trans ((hbP.cell (p := ⟨b, off + k * 2, none⟩) hbl).trans x1)
      have d2 := (hb.cell (p := ⟨b, off + k * 2 + 1, none⟩) (by show b < _; omega)).trans ((hbP.cell (p := ⟨b, off + k * 2 + 1, none⟩) hbl).trans x2)
      have htk := Lib.hid (take_snoc ps hlt)
      clear hx x1 x2 hs
      generalize ps[k] = q at d1 d2 htk
      obtain ⟨q1, q2⟩ := q
      dsimp only at d1 d2
      have hol2 : out.length + 1 ≤ ps.length + 1 := by
        rcases hput with ⟨_, _, rfl⟩ | ⟨_, _, rfl⟩
        · rw [putP_length, List.length_take]; omega
        · rw [List.length_take]; omega
      have hc1a : ∀ o, (wr.alloc o).cell? ⟨w.heap.size, 0, none⟩ = some (.int .i64 p1) := fun o => (World.cell?_alloc_lt wr o _ (by show w.heap.size < _; omega)).trans hc1
      have hc2a : ∀ o, (wr.alloc o).cell? ⟨w.heap.size, 1, none⟩ = some (.int .i64 p2) := fun o => (World.cell?_alloc_lt wr o _ (by show w.heap.size < _; omega)).trans hc2
      rcases hput with ⟨rfl, hany, hout⟩ | ⟨rfl, hany, hout⟩
      · -- p IS IN: q ALONE
        have Hnew : Hid (PutTo (p1, p2) (ps.take (k + 1)) true (out ++ [(q1, q2)])) := by
          refine .inl ⟨rfl, ?_, ?_⟩
          · rw [htk.out, anyAfter_snoc, hany]; rfl
          · rw [htk.out, putP_later _ _ _ hany, hout]
        clear hany hout
        go_wp2_with (at_builtin; refine wpList_append_own _ rfl (.tmp 29) (.tmp 31) 23 rfl (w.heap.size + 1) 32 i0 (.agg #[.int .i64 0, .int .i64 0]) 2 16 Try.underlying23 hi hz0 hz1 hz2 rfl (by decide) (.slice A' out.length c') out.length (pcells out) rfl ((hrow.alloc (.cells #[.int .i64 q1, .int .i64 q2] 32)).alloc _) ⟨wr.heap.size + 1, 0, none⟩ 1 1 [.int .i64 q1, .int .i64 q2] rfl rfl (pair_new_at _ _ _ _ _ (by simp)) (by simp [Value.oneCell']) (by unfold maxLen; omega) (by omega) (by simp; omega) ?_; intro v' w1 hown' hgrow _)
        have hb1 := below_own ((hb.alloc (by omega) (.cells #[.int .i64 q1, .int .i64 q2] 32)).alloc (by simp; omega) (.cells #[.int .i64 q1, .int .i64 q2] 32)) ((hrow.alloc (.cells #[.int .i64 q1, .int .i64 q2] 32)).alloc (.cells #[.int .i64 q1, .int .i64 q2] 32)) hgrow (Nat.le_refl _) (by simp; omega)
        go_roundw
        case rel => exact ⟨k + 1, true, out ++ [(q1, q2)], by omega, by go_num, rfl, Hnew.out, by rw [pcells_append, List.length_append]; exact hown', hb1⟩
        case measure => simp [intOf]; omega
      · by_cases hpq : p1 < q1
        · have Hnew : Hid (PutTo (p1, p2) (ps.take (k + 1)) true (out ++ [(p1, p2)] ++ [(q1, q2)])) := by
            refine .inl ⟨rfl, ?_, ?_⟩
            · rw [htk.out, anyAfter_snoc, hany]; simpa using hpq
            · rw [htk.out, putP_first _ _ _ hany hpq, hout]
          have ho : out.length = k := by rw [hout, List.length_take]; omega
          have ho' : out.length ≤ k := by omega
          clear hany hout ho
          have hgl := hrow.lt
          go_wp2_with (first
            | (at_builtin; have _t := hgl; refine wpList_append_own _ rfl (.tmp 25) (.tmp 27) 23 rfl (w.heap.size + 1) 32 i0 (.agg #[.int .i64 0, .int .i64 0]) 2 16 Try.underlying23 hi hz0 hz1 hz2 rfl (by decide) (.slice A' out.length c') out.length (pcells out) rfl ((hrow.alloc (.cells #[.int .i64 q1, .int .i64 q2] 32)).alloc _) ⟨wr.heap.size + 1, 0, none⟩ 1 1 [.int .i64 p1, .int .i64 p2] rfl rfl (pair_new_at _ _ _ _ _ (by simp)) (by simp [Value.oneCell']) (by unfold maxLen; omega) (by omega) (by simp; omega) ?_; intro v1 w1 hown1 hgrow1 _; have hb1 := below_own ((hb.alloc (by omega) (.cells #[.int .i64 q1, .int .i64 q2] 32)).alloc (by simp; omega) (.cells #[.int .i64 p1, .int .i64 p2] 32)) ((hrow.alloc (.cells #[.int .i64 q1, .int .i64 q2] 32)).alloc (.cells #[.int .i64 p1, .int .i64 p2] 32)) hgrow1 (Nat.le_refl _) (by simp; omega); have hqb : w1.heap[wr.heap.size]? = some (.cells #[.int .i64 q1, .int .i64 q2] 32 (0, 0)) := ((hgrow1.block wr.heap.size (by simp; omega) (fun e => by have := (hgl _ e.symm).2; omega)).trans ((Below.heap_alloc _ _ _ (by simp)).trans (World.alloc_heap_new wr _))); have y1 := two_cell1 hqb; have y2 := two_cell2 hqb; have hbs1 := hb1.size; clear hgl hqb)
            | (at_builtin; have _t := hown1; refine wpList_append_own _ rfl (.tmp 29) (.tmp 31) 23 rfl (w.heap.size + 1) 32 i0 (.agg #[.int .i64 0, .int .i64 0]) 2 16 Try.underlying23 hi hz0 hz1 hz2 rfl (by decide) v1 (out.length + 1) (pcells out ++ [.int .i64 p1, .int .i64 p2]) rfl (hown1.alloc _) ⟨w1.heap.size, 0, none⟩ 1 1 [.int .i64 q1, .int .i64 q2] rfl rfl (pair_new_at _ _ _ _ _ (by simp)) (by simp [Value.oneCell']) (by unfold maxLen; omega) (by omega) (by simp; omega) ?_; intro v' w2 hown' hgrow2 _; have hb2 := below_own (hb1.alloc (by omega) (.cells #[.int .i64 q1, .int .i64 q2] 32)) (hown1.alloc (.cells #[.int .i64 q1, .int .i64 q2] 32)) hgrow2 (Nat.le_refl _) (by simp; omega); clear hown1 hgrow1))
          go_roundw
          case rel => exact ⟨k + 1, true, out ++ [(p1, p2)] ++ [(q1, q2)], by omega, by go_num, rfl, Hnew.out, by rw [pcells_append, pcells_append, List.length_append, List.length_append]; exact hown', hb2⟩
          case measure => simp [intOf]; omega
        · have Hnew : Hid (PutTo (p1, p2) (ps.take (k + 1)) false (out ++ [(q1, q2)])) := by
            refine .inr ⟨rfl, ?_, ?_⟩
            · rw [htk.out, anyAfter_snoc, hany]; simpa using hpq
            · rw [htk.out, hout]
          clear hany hout
          go_wp2_with (at_builtin; refine wpList_append_own _ rfl (.tmp 29) (.tmp 31) 23 rfl (w.heap.size + 1) 32 i0 (.agg #[.int .i64 0, .int .i64 0]) 2 16 Try.underlying23 hi hz0 hz1 hz2 rfl (by decide) (.slice A' out.length c') out.length (pcells out) rfl ((hrow.alloc (.cells #[.int .i64 q1, .int .i64 q2] 32)).alloc _) ⟨wr.heap.size + 1, 0, none⟩ 1 1 [.int .i64 q1, .int .i64 q2] rfl rfl (pair_new_at _ _ _ _ _ (by simp)) (by simp [Value.oneCell']) (by unfold maxLen; omega) (by omega) (by simp; omega) ?_; intro v' w1 hown' hgrow _)
          have hb1 := below_own ((hb.alloc (by omega) (.cells #[.int .i64 q1, .int .i64 q2] 32)).alloc (by simp; omega) (.cells #[.int .i64 q1, .int .i64 q2] 32)) ((hrow.alloc (.cells #[.int .i64 q1, .int .i64 q2] 32)).alloc (.cells #[.int .i64 q1, .int .i64 q2] 32)) hgrow (Nat.le_refl _) (by simp; omega)
          go_roundw
          case rel => exact ⟨k + 1, false, out ++ [(q1, q2)], by omega, by go_num, rfl, Hnew.out, by rw [pcells_append, List.length_append]; exact hown', hb1⟩
          case measure => simp [intOf]; omega
    · obtain rfl : k = ps.length := by omega
      clear hs
      rw [List.take_of_length_le (Nat.le_refl _)] at hput
      rcases hput with ⟨rfl, hany, hout⟩ | ⟨rfl, hany, hout⟩
      · have Hout := Lib.hid hout
        clear hany hout
        go_wp2
        go_ret
        exact ⟨_, rfl, by rw [← Hout.out]; exact own_base hrow (by omega), hbP.trans (hb.mono (by omega))⟩
      · have Hout := Lib.hid ((putP_none (p1, p2) ps hany).trans (by rw [hout] : ps ++ [(p1, p2)] = out ++ [(p1, p2)]))
        have ho' : out.length ≤ ps.length := by rw [hout]; exact Nat.le_refl _
        clear hany hout
        go_wp2_with (at_builtin; refine wpList_append_own _ rfl (.tmp 36) (.tmp 38) 23 rfl (w.heap.size + 1) 32 i0 (.agg #[.int .i64 0, .int .i64 0]) 2 16 Try.underlying23 hi hz0 hz1 hz2 rfl (by decide) (.slice A' out.length c') out.length (pcells out) rfl (hrow.alloc _) ⟨wr.heap.size, 0, none⟩ 1 1 [.int .i64 p1, .int .i64 p2] rfl rfl (pair_new_at _ _ _ _ _ (by simp)) (by simp [Value.oneCell']) (by unfold maxLen; omega) (by omega) (by simp; omega) ?_; intro v' w1 hown' hgrow _)
        have hb1 := below_own (hb.alloc (by omega) (.cells #[.int .i64 p1, .int .i64 p2] 32)) (hrow.alloc (.cells #[.int .i64 p1, .int .i64 p2] 32)) hgrow (Nat.le_refl _) (by simp; omega)
        go_ret
        exact ⟨_, rfl, by rw [Hout.out, pcells_append, List.length_append]; exact own_base hown' (by omega), hbP.trans (hb1.mono (by omega))⟩

end Go.Proofs.Ytfagmnjhpipndaa
