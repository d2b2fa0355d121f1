/-
  The contract of spec.Keys. No statement is proved here.
-/
import Derived.Test.YtpmcoiomnkladaaMapKeys
namespace Go.Proofs.Ytpmcoiomnkladaa
open Go.RowKit Go.Shelf

set_option maxRecDepth 100000 in
set_option maxHeartbeats 1000000 in
/-- spec.Keys -/
theorem specKeys_calls (w : World) (B : Nat) (sv : Value) (ps : List (Int × Int)) (hI : SeesP w B sv ps) (hB : B ≤ w.heap.size) (hz : (ps.length + 1) * 16 ≤ 140737488355328) :
    Calls Try.prog 14 #[sv] w fun e w' =>
      ∃ v, e = .returned v ∧ w'.ownsRow w.heap.size 3 1 v (keysU ps).length ((keysU ps).map (Value.int .i64)) ∧ Below w.heap.size w w' := by
  obtain ⟨i0, hi, hz0, hz1, hz2⟩ := info_parts Try.infoInt
  have hml := mapU_length ps
  have hown0 := own_empty w w.heap.size 1 3 (Nat.le_refl _)
  have hb0 := (Below.refl w.heap.size w).alloc (Nat.le_refl _) (.cells #[] 3)
  have hc := Lib.hid (specMap_calls (w.alloc (.cells #[] 3)) w.heap.size sv ps ((hI.more hB).below hb0) (by simp) hz)
  obtain ⟨A, c, rfl, _⟩ := hI.form
  clear hI
  go_enter Try.func14, Try.ntmps14
  go_wp2_with fail
  refine hc.out.mono ?_
  rintro e w1 ⟨mv, rfl, hmv, hb1⟩
  rw [World.size_alloc] at hmv
  have hown1 := own_below hown0 hb1
  have hb01 := hb0.trans (hb1.mono (by simp))
  have hne0 : mv.ownBlock = none ∨ mv.ownBlock ≠ some w.heap.size := by
    rcases hm : mv.ownBlock with _ | g
    · exact .inl rfl
    · have := (hmv.lt g hm).1
      exact .inr (fun e => by injection e with e; omega)
  obtain ⟨Am, cm, rfl, _⟩ := own_form hmv
  have hR : Hid (keysU ps = (mapU ps).map (·.1)) := Lib.hid (keysU_eq ps)
  clear hown0 hb0 hb1 hc
  generalize mapU ps = ms at hml hmv hR hne0
  go_wp2_with fail
  go_loopw [3, 5] (fun v i wr => ∃ k : Nat, k ≤ ms.length ∧ i = .int .i64 k ∧ wr.ownsRow w.heap.size 3 1 v k (((ms.take k).map (·.1)).map (Value.int .i64)) ∧ wr.ownsRow (w.heap.size + 1) 40 2 (.slice Am ms.length cm) ms.length (pcells ms) ∧ ((Value.slice Am ms.length cm).ownBlock = none ∨ (Value.slice Am ms.length cm).ownBlock ≠ v.ownBlock) ∧ Below w.heap.size w wr) (fun _ i _ => ms.length - (intOf i).toNat)
  case atStart => exact ⟨0, Nat.zero_le _, rfl, hown1, hmv, hne0, hb01⟩
  case round =>
    obtain ⟨k, hk, rfl, hrow, hmr, hne, hb⟩ := hrel
    have hbs := hb.size
    clear hown1 hmv hne0 hb01
    obtain ⟨A', c', rfl, _⟩ := own_form hrow
    by_cases hlt : k < ms.length
    · obtain ⟨gm, c2, e2⟩ := own_pos hmr (by omega)
      cases e2
      obtain ⟨d1, d2⟩ := own_pair hmr k hlt
      have htk := Lib.hid (take_snoc ms hlt)
      have hgm := (hmr.lt gm rfl).2
      have HL := Lib.hid hmr
      have HNE := Lib.hid hne
      clear hmr hne
      generalize ms[k] = q at d1 d2 htk
      obtain ⟨q1, q2⟩ := q
      dsimp only at d1 d2
      go_wp2_with (at_builtin; refine wpList_append_sees _ rfl (.tmp 15) (.tmp 21) 23 rfl w.heap.size 3 i0 (.int .i64 0) 1 8 Try.underlying23 hi hz0 hz1 hz2 rfl (by decide) (.slice A' k c') k _ rfl (hrow.alloc _) _ _ 1 [.int .i64 q1] rfl (Sees.own (World.ownsRow_lit (base := 0) (size := 1) wr #[.int .i64 q1] 1 (Nat.zero_le _) (by unfold maxLen; omega) rfl)) (by simp [Value.oneCell']) (by unfold maxLen; omega) (by omega) (by simp; omega) ?_; intro v' w2 hown' hgrow _ hat)
      have hb2 := below_own (hb.alloc hbs (.cells #[.int .i64 q1] 3)) (hrow.alloc (.cells #[.int .i64 q1] 3)) hgrow (Nat.le_refl _) (by simp; omega)
      have hmr2 := (HL.out.alloc (.cells #[.int .i64 q1] 3)).kept hgrow HNE.out
      have hne2 : (Value.slice (some ⟨gm, 0, none⟩) ms.length cm).ownBlock = none ∨ (Value.slice (some ⟨gm, 0, none⟩) ms.length cm).ownBlock ≠ v'.ownBlock := by
        rcases hat with e | e
        · rw [e]; exact HNE.out
        · refine .inr ?_
          rw [e]
          simp only [Value.ownBlock, World.size_alloc]
          intro e
          injection e with e
          omega
      go_roundw
      case rel => exact ⟨k + 1, by omega, by go_num, by rw [htk.out, List.map_append, List.map_append]; exact hown', hmr2, hne2, hb2⟩
      case measure => simp [intOf]; omega
    · obtain rfl : k = ms.length := by omega
      rw [List.take_of_length_le (Nat.le_refl _)] at hrow
      clear hmr hne
      go_wp2
      go_ret
      exact ⟨_, rfl, by rw [hR.out, List.length_map]; exact hrow, hb⟩

end Go.Proofs.Ytpmcoiomnkladaa
