/-
  The contract of spec.WalkChunk: copies of the first parts, and their lengths. No statement is proved here.
-/
import Derived.Test.YtmfmpfcgllpflaaWalkChunk
namespace Go.Proofs.Ytmfmpfcgllpflaa
open Go.RowKit Go.Shelf

/-- spec.WalkChunk, of a size below 1 -/
theorem specWalkChunk_never (w : World) (A : Option Addr) (len c : Nat) (m most : Int) (hm : m < 1) :
    Calls Try.prog 16 #[.slice A len c, .int .i64 m, .int .i64 most] w fun e w' => e = .returned (.tuple #[.slice none 0 0, .slice none 0 0, .bool true]) ∧ w = w' := by
  go_enter Try.func16, Try.ntmps16
  go_wp2
  go_ret3
  exact ⟨rfl, rfl⟩

theorem partsL_snoc (zs : List Int) (m k : Nat) (h : k < cntS zs.length m) : (partsL zs m).take (k + 1) = (partsL zs m).take k ++ [partL zs m k] := by
  rw [List.take_succ_eq_append_getElem (by rw [partsL_length]; exact h)]
  simp [partsL, partL]

/-- A part of a slice, with whatever room behind it. -/
theorem SeesI.midc {w : World} {B b off c : Nat} {zs : List Int} (h : SeesI w B (.slice (some ⟨b, off, none⟩) zs.length c) zs) (i m c' : Nat) (hi : i < zs.length) (hc : min m (zs.length - i) ≤ c') :
    SeesI w B (.slice (some ⟨b, off + i, none⟩) (min m (zs.length - i)) c') ((zs.drop i).take m) := by
  obtain ⟨_, A, c2, e, _, hs⟩ := h
  cases e
  have hl : ((zs.drop i).take m).length = min m (zs.length - i) := by rw [List.length_take, List.length_drop]
  refine ⟨by rw [List.length_map, Nat.mul_one], _, _, by rw [hl], by rw [hl]; exact hc, fun h0 => ?_⟩
  obtain ⟨b', off', hA, hb, hx⟩ := hs (by omega)
  cases hA
  refine ⟨b, off + i, rfl, hb, fun j hj => ?_⟩
  rw [hl, Nat.mul_one] at hj
  have := hx (i + j) (by omega)
  rw [Nat.add_assoc, this, List.getElem?_map, List.getElem?_map, List.getElem?_take_of_lt (by omega), List.getElem?_drop]

theorem specCopied {wr w1 : World} {base n k c2 c3 : Nat} {A2 A3 : Option Addr} {v1 : Value} {ps : List Cp} {l : List Int} {xs : List Value} {e : TypeId} (hl : 0 < l.length)
    (hr1 : w1.ownsRow base 3 1 v1 (0 + l.length) ([] ++ l.map (Value.int .i64))) (hg1 : (wr.alloc (.cells #[] e)).grownBy w1 (some wr.heap.size)) (hn1 : v1.ownBlock = some wr.heap.size ∨ v1.ownBlock = some (wr.alloc (.cells #[] e)).heap.size)
    (hrow : wr.ownsRow base 23 1 (.slice A2 n c2) ps.length (ps.map valP)) (hu : wr.ownsRow base 3 1 (.slice A3 k c3) k xs) (hb : base ≤ wr.heap.size) :
    ∃ g q, v1 = .slice (some ⟨g, 0, none⟩) l.length q ∧ Hid (w1.ownsRow base 3 1 v1 l.length (l.map (Value.int .i64))) ∧ Hid ((wr.alloc (.cells #[] e)).grownBy w1 (some wr.heap.size)) ∧ Hid (v1.ownBlock = some wr.heap.size ∨ v1.ownBlock = some (wr.heap.size + 1)) ∧
      w1.ownsRow base 23 1 (.slice A2 n c2) ps.length (ps.map valP) ∧ w1.ownsRow base 3 1 (.slice A3 k c3) k xs ∧ base ≤ w1.heap.size := by
  rw [Nat.zero_add, List.nil_append] at hr1
  rw [World.size_alloc] at hn1
  have hn2 := hn1
  obtain ⟨g, q, rfl⟩ := own_pos hr1 hl
  refine ⟨g, q, rfl, hr1, hg1, hn2, own_keep (hrow.alloc _) hg1 (fun r e => ?_), own_keep (hu.alloc _) hg1 (fun r e => ?_), ?_⟩
  · cases e; right; right; right; right; intro e; have := (hrow.lt _ e).2; omega
  · cases e; right; right; right; right; intro e; have := (hu.lt _ e).2; omega
  · have := hg1.size; rw [World.size_alloc] at this; omega

theorem specOther {w1 w2 : World} {base n k : Nat} {v u : Value} {xs ys : List Value} {o : Obj} (hv : w1.ownsRow base 23 1 v n ys) (hu : w1.ownsRow base 3 1 u k xs) (hg : (w1.alloc o).grownBy w2 v.ownBlock) : w2.ownsRow base 3 1 u k xs :=
  own_keep (hu.alloc o) hg (fun r e => by obtain ⟨cur, q, h⟩ := own_type (hv.alloc o) e; exact .inr (.inr (.inr (.inl ⟨cur, _, q, h, by decide⟩))))

theorem specLast {w2 w3 : World} {base gv kv n k : Nat} {u v1 : Value} {xs : List Value} {ys : List Value} {o : Obj} (hv : w2.ownsRow base 23 1 (.slice (some ⟨gv, 0, none⟩) (n + 1) kv) (n + 1) (ys ++ [v1])) (hu : w2.ownsRow base 3 1 u k xs) (hg : (w2.alloc o).grownBy w3 u.ownBlock) :
    w3.cell? ⟨gv, n, none⟩ = some v1 := by
  have h3 : w3.ownsRow base 23 1 (.slice (some ⟨gv, 0, none⟩) (n + 1) kv) (n + 1) (ys ++ [v1]) :=
    own_keep (hv.alloc o) hg (fun r e => by obtain ⟨cur, q, h⟩ := own_type (hu.alloc o) e; exact .inr (.inr (.inr (.inl ⟨cur, _, q, h, by decide⟩))))
  have hl : ys.length = n := by have := hv.1; simp at this; omega
  rw [h3.cellAt n (by omega), List.getElem?_append_right (by omega)]
  simp [hl]

/-- What the loop keeps. -/
def SpecChunk (w : World) (zs : List Int) (m k : Nat) (v u : Value) (W : World) : Prop :=
  HeldP W w.heap.size v u.ownBlock ((partsL zs m).take k) ∧ W.ownsRow w.heap.size 3 1 u k (((partsL zs m).take k).map fun l => .int .i64 (l.length : Int)) ∧ Below w.heap.size w W

set_option maxRecDepth 100000 in
set_option maxHeartbeats 4000000 in
/-- spec.WalkChunk -/
theorem specWalkChunk_calls (w : World) (sv : Value) (zs : List Int) (m : Nat) (most : Int) (hI : SeesI w w.heap.size sv zs) (hm : 0 < m) (hm63 : m ≤ 9223372036854775807) (hz : zs.length * 24 ≤ 140737488351232) :
    Calls Try.prog 16 #[sv, .int .i64 (m : Int), .int .i64 most] w (WalkChunkPost w ((partsL zs m).take most.toNat)) := by
  obtain ⟨A, c, rfl, hlc, hx⟩ := hI.form
  obtain ⟨i0, hi, hz0, hz1, hz2⟩ := info_parts Try.infoInt
  obtain ⟨i1, hj, hy0, hy1, hy2⟩ := info_parts Try.infoSl
  have hcl := cntS_le zs.length m hm
  have hm1 : ¬ (m : Int) < 1 := by omega
  clear hx
  go_enter Try.func16, Try.ntmps16
  have hr0 := own_empty w w.heap.size 1 23 (Nat.le_refl _)
  have hr1 := own_empty (w.alloc (.cells #[] 23)) w.heap.size 1 3 (by simp)
  have hb0 := ((Below.refl _ w).alloc (Nat.le_refl _) (.cells #[] 23)).alloc (by simp) (.cells #[] 3)
  go_wp2
  go_loopw [9, 10, 11] (fun v u i wr => ∃ k : Nat, k ≤ cntS zs.length m ∧ k ≤ most.toNat ∧ i = .int .i64 ((min (k * m) zs.length : Nat) : Int) ∧ SpecChunk w zs m k v u wr) (fun _ _ i _ => zs.length - (intOf i).toNat)
  case atStart => exact ⟨0, Nat.zero_le _, Nat.zero_le _, by simp, ⟨[], by simp, hr0.alloc _, fun p hp => by cases hp⟩, by simpa using hr1, hb0⟩
  case round =>
    obtain ⟨k, hk, hkm, rfl, ⟨ps, hps1, hrow, hps2⟩, hu, hB⟩ := hrel
    have hpl : ps.length = k := by have := congrArg List.length hps1; rw [List.length_map, List.length_take, partsL_length] at this; omega
    subst hpl
    obtain ⟨A2, c2, rfl, _⟩ := own_form hrow
    obtain ⟨A3, c3, rfl, _⟩ := own_form hu
    have hbs := hB.size
    by_cases hlt : ps.length < cntS zs.length m
    · have hkl := (cntS_lt hm).1 hlt
      have hsn := Lib.hid (partsL_snoc zs m ps.length hlt)
      rw [Nat.min_eq_left (Nat.le_of_lt hkl)]
      by_cases hmo : (ps.length : Int) < most
      · have hsI := (hI.below hB).more (B' := wr.heap.size) hbs
        obtain ⟨b, off, rfl⟩ : ∃ b off, A = some (⟨b, off, none⟩ : Addr) := by
          obtain ⟨A', c', e, _, h3⟩ := hsI.form
          cases e
          obtain ⟨b, off, e, _⟩ := h3 (by omega)
          exact ⟨b, off, e⟩
        have hl0 : 0 < (partL zs m ps.length).length := by simp [partL]; omega
        have hlm : (partL zs m ps.length).length = min m (zs.length - ps.length * m) := by simp [partL]
        have hsP := hsI.midc (ps.length * m) m (c - ps.length * m) hkl (by omega)
        change SeesI wr wr.heap.size _ (partL zs m ps.length) at hsP
        have hnx : (ps.length + 1) * m = ps.length * m + m := Nat.succ_mul _ _
        have Hnx := Lib.hid hnx
        clear hnx hsI
        have hub : ∀ r, (Value.slice A3 ps.length c3).ownBlock = some r → r < wr.heap.size := fun r e => (hu.lt r e).2
        have Hps2 := Lib.hid hps2
        have Hps1 := Lib.hid hps1
        clear hps1 hps2 hI
        generalize ps.length * m = i at *
        generalize partL zs m ps.length = l at *
        have hE : ((i : Int) + min (m : Int) ((zs.length : Int) - (i : Int))).toNat - i = l.length := by omega
        have hE2 : min m (zs.length - i) = l.length := hlm.symm
        have hsee := Lib.hid (show Sees (wr.alloc (.cells #[] 3)) wr.heap.size 1 (.slice (some ⟨b, off + i, none⟩) (((i : Int) + min (m : Int) ((zs.length : Int) - (i : Int))).toNat - i) (c - i)) l.length (l.map (Value.int .i64)) from by
          have := Sees.below hsP ((Below.refl _ wr).alloc (Nat.le_refl _) (.cells #[] 3))
          rw [hE2] at this
          rw [hE]
          exact this)
        have HE := Lib.hid hE
        have hll : l.length ≤ zs.length := by omega
        have hl1 : l.length ≤ m := by omega
        have Hlm := Lib.hid hlm
        clear hlm hsP hE hE2
        go_wp2_with (first
          | (at_builtin; refine wpList_append_sees _ rfl (.tmp 45) (.tmp 49) 23 rfl w.heap.size 3 i0 (.int .i64 0) 1 8 Try.underlying23 hi hz0 hz1 hz2 rfl (by decide) (.slice (some ⟨wr.heap.size, 0, none⟩) 0 0) 0 [] rfl (own_empty wr w.heap.size 1 3 hbs) _ _ _ _ rfl hsee.out (int_cell _) (by unfold maxLen; omega) (by omega) (by simp; omega) ?_; intro v1 w1 hr1 hg1 _ hn1; obtain ⟨g1, k1, rfl, Hr1, Hg1, Hn1, hv1, hu1, hbw1⟩ := specCopied hl0 hr1 hg1 hn1 hrow hu hbs; clear hr1 hg1 hn1)
          | (at_builtin; refine wpList_append_sees _ rfl (.tmp 44) (.tmp 51) 22 rfl w.heap.size 23 i1 (.slice none 0 0) 1 24 Try.underlying22 hj hy0 hy1 hy2 rfl (by decide) (.slice A2 ps.length c2) ps.length (ps.map valP) rfl (hv1.alloc _) _ _ _ _ rfl (sees_one w1 _ _) (by simp [Value.oneCell']) (by unfold maxLen; omega) (by omega) (by simp; omega) ?_; intro v2 w2 hr2 hg2 _ _; obtain ⟨gv, kv, rfl⟩ := ownsRow_succ hr2; have HH := Lib.hid (held_push hrow Hps2.out hub Hg1.out Hr1.out hl0 Hn1.out hg2 hr2); have hu2 := specOther hv1 hu1 hg2; have hs2 := hg2.size; rw [World.size_alloc] at hs2; have Hg2 := Lib.hid hg2; clear hg2)
          | (at_builtin; refine wpList_append_sees _ rfl (.tmp 53) (.tmp 57) 23 rfl w.heap.size 3 i0 (.int .i64 0) 1 8 Try.underlying23 hi hz0 hz1 hz2 rfl (by decide) (.slice A3 ps.length c3) ps.length _ rfl (hu2.alloc _) _ _ _ _ rfl (sees_one w2 _ _) (by simp [Value.oneCell']) (by unfold maxLen; omega) (by omega) (by simp; omega) ?_; intro u3 w3 hr3 hg3 _ hn3; obtain ⟨gu, ku, rfl⟩ := ownsRow_succ hr3; have hlast := specLast hr2 hu2 hg3; have HH3 := Lib.hid (held_other HH.out hu2 hg3 (by rw [World.size_alloc] at hn3; exact hn3)); have Hg3 := Lib.hid hg3; have Hr3 := Lib.hid hr3; clear hg3 hn3 hr3))
        go_roundw
        case rel =>
          have hlm := Hlm.out
          have e1 : (i : Int) + min (m : Int) ((zs.length : Int) - (i : Int)) - (i : Int) = (l.length : Int) := by omega
          have hB2 := (((((((Below.refl w.heap.size wr).alloc hbs _).grown Hg1.out (by simp; omega) (fun k e => by cases e; exact hbs)).alloc hbw1 _).grown Hg2.out (by simp; omega) (fun k e => (hrow.lt k e).1)).alloc (by omega) _).grown Hg3.out (by simp; omega) (fun k e => (hu.lt k e).1))
          have hr3 := Hr3.out
          rw [e1] at hr3
          refine ⟨ps.length + 1, by omega, by omega, ?_, ?_, ?_, hB.trans hB2⟩
          · rw [Hnx.out, show min (i + m) zs.length = i + l.length by omega, Int.natCast_add]
          · rw [hsn.out, ← Hps1.out]; exact HH3.out
          · rw [hsn.out, List.map_append]; exact hr3
        case measure => simp [intOf]; omega
      · have hkk : ps.length = most.toNat := by omega
        have Hkk := Lib.hid hkk
        have Hps1 := Lib.hid hps1
        clear hkk hps1
        go_wp2
        go_ret3
        have hp := Hps1.out
        rw [Hkk.out] at hp
        refine ⟨_, _, rfl, ⟨ps, hp, hrow, hps2⟩, ?_, hB⟩
        rw [← hp, List.length_map, hp, ← Hkk.out]
        exact hu
    · have hkc : ps.length = cntS zs.length m := by omega
      have hge : zs.length ≤ ps.length * m := by
        rcases Nat.lt_or_ge (ps.length * m) zs.length with h | h
        · exact absurd ((cntS_lt hm).2 h) hlt
        · exact h
      have hT : (partsL zs m).take ps.length = (partsL zs m).take most.toNat := by
        rw [List.take_of_length_le (by rw [partsL_length]; omega), List.take_of_length_le (by rw [partsL_length]; omega)]
      have HT := Lib.hid hT
      have Hps1 := Lib.hid hps1
      rw [Nat.min_eq_right hge]
      clear hT hps1 hkc
      go_wp2
      go_ret3
      have hp := Hps1.out
      rw [HT.out] at hp
      refine ⟨_, _, rfl, ⟨ps, hp, hrow, hps2⟩, ?_, hB⟩
      rw [← hp, List.length_map, hp, ← HT.out]
      exact hu

end Go.Proofs.Ytmfmpfcgllpflaa
