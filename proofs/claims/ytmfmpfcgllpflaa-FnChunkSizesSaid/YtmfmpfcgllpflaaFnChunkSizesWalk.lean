/-
  The walk of the law FnChunkSizes: it returns true and writes nothing that was there.
-/
import Derived.Test.YtmfmpfcgllpflaaSame
import Derived.Test.YtmfmpfcgllpflaaWalkChunk
import Derived.Test.YtmfmpfcgllpflaaDrawSized
namespace Go.Proofs.Ytmfmpfcgllpflaa
open Go.RowKit Go.Shelf

theorem partsL_get (zs : List Int) (m k : Nat) (hm : 0 < m) (h : k < (partsL zs m).length) : 1 ≤ (partsL zs m)[k].length ∧ (partsL zs m)[k].length ≤ m ∧ (k + 1 < (partsL zs m).length → (partsL zs m)[k].length = m) := by
  have e : (partsL zs m)[k].length = min m (zs.length - k * m) := by simp [partsL]
  rw [partsL_length] at h ⊢
  have h1 := (cntS_lt hm).1 h
  rw [e]
  refine ⟨by omega, by omega, fun h2 => ?_⟩
  have h3 := (cntS_lt hm).1 h2
  rw [Nat.succ_mul] at h3
  omega

set_option maxRecDepth 100000 in
set_option maxHeartbeats 4000000 in
theorem fnChunkSizes_walk (w : World) (v0 : Value) (z0 : List Int) (s0 : SeesB w w.heap.size v0 z0) (_ : z0.length * 1 ≤ 140737488351232) (f0 : ∀ z ∈ z0, 0 ≤ z ∧ z ≤ 255) :
    Calls Try.prog 10 #[v0] w fun e w' => e = .returned (.bool true) ∧ Below w.heap.size w w' := by
  obtain ⟨A, c, hv, _⟩ := s0.form
  by_cases hbig : (1048576 : Int) < (z0.length : Int)
  · subst hv
    clear s0 f0
    go_enter Try.func10, Try.ntmps10
    go_wp2
    go_ret
    exact ⟨rfl, Below.refl _ _⟩
  · have hd := Lib.hid (drawSized_calls w v0 z0 s0 (by omega) f0)
    subst hv
    clear s0 f0
    go_enter Try.func10, Try.ntmps10
    go_wp2_with fail
    refine hd.out.mono ?_
    rintro e w1 ⟨v1, z1, n, rfl, ⟨s1, l1, _⟩, hnw, hB1⟩
    have hnl := wf_le hnw
    clear hnw
    obtain ⟨A1, c1, e1, _, _⟩ := s1.form
    by_cases hlt : n < 1
    · subst e1
      have hc := Lib.hid (walkChunk_never w1 A1 z1.length c1 n (z1.length : Int) hlt)
      go_wp2_with fail
      refine hc.out.mono ?_
      rintro e w2 ⟨rfl, hb2⟩
      go_wp2
      go_ret
      exact ⟨rfl, hB1.trans (hb2.mono hB1.size)⟩
    · obtain ⟨m, rfl⟩ := Int.eq_ofNat_of_zero_le (show 0 ≤ n by omega)
      have hm : 0 < m := by omega
      have hc := walkChunk_calls w1 v1 z1 m (z1.length : Int) s1 hm (by omega) (by omega)
      have hcl := cntS_le z1.length m hm
      rw [Int.toNat_natCast, List.take_of_length_le (by rw [partsL_length]; exact hcl)] at hc
      have Hc := Lib.hid hc
      have hpl : (partsL z1 m).length ≤ z1.length := by rw [partsL_length]; exact hcl
      have hget := Lib.hid (partsL_get z1 m)
      have hfl := Lib.hid (flat_parts z1 m hm)
      subst e1
      clear hc hcl
      generalize partsL z1 m = L at Hc hpl hget hfl
      go_wp2_with fail
      refine Hc.out.mono ?_
      rintro e w2 ⟨v2, u2, rfl, hh2, hu2, hb2⟩
      have s2 := (s1.below hb2).more hb2.size
      have hB2 := hB1.trans (hb2.mono hB1.size)
      have sL := hh2.sees
      have sI := SeesI.own (zs := L.map fun l => (l.length : Int)) (by rw [List.length_map, List.map_map]; exact hu2)
      obtain ⟨A3, c3, e3, _, hx3⟩ := sL.form
      obtain ⟨A4, c4, e4, _, hx4⟩ := sI.form
      have SL := Lib.hid sL
      have S2 := Lib.hid s2
      rw [List.length_map] at e4 hx4
      subst e3
      subst e4
      clear hh2 hu2 sL sI Hc s1 s2 hb2 hB1
      go_wp2
      go_loopw [8] (fun i wr => ∃ k : Nat, k ≤ L.length ∧ i = .int .i64 k ∧ ∃ q, wr = w2.drewN q) (fun i _ => L.length - (intOf i).toNat)
      case atStart => exact ⟨0, Nat.zero_le _, rfl, 0, rfl⟩
      case round =>
        obtain ⟨k, hk, rfl, q, rfl⟩ := hrel
        by_cases hkl : k < L.length
        · obtain ⟨b3, o3, rfl, _, hy3⟩ := hx3 (by omega)
          obtain ⟨b4, o4, rfl, _, hy4⟩ := hx4 (by omega)
          obtain ⟨x, f3, t3⟩ := hy3 k hkl
          have f4 := hy4 k hkl
          rw [List.getElem?_map, List.getElem?_eq_getElem hkl, Option.map_some, Option.getD_some] at f4
          obtain ⟨A5, c5, rfl, _⟩ := t3.form
          obtain ⟨g1, g2, g3⟩ := hget.out k hm hkl
          clear t3 hy3 hy4 hx3 hx4
          generalize L[k].length = t at f3 f4 g1 g2 g3
          have d1 : decide ((t : Int) < 1) = false := by simp; omega
          have d2 : decide ((m : Int) < (t : Int)) = false := by simp; omega
          by_cases hk1 : k + 1 < L.length
          · obtain rfl := g3 hk1
            have j1 : (k : Int) + 1 < (L.length : Int) := by omega
            clear g1 g2 g3
            go_wp2
            go_quiet (fail)
            go_wp2
            go_roundw
            case rel => exact ⟨k + 1, by omega, by go_num, _, rfl⟩
            case measure => simp [intOf]; omega
          · have j1 : decide ((k : Int) + 1 < (L.length : Int)) = false := by simp; omega
            have G2 := Lib.hid g2
            clear g1 g2 g3
            go_wp2
            go_quiet (fail)
            go_wp2
            · exfalso
              have := G2.out
              omega
            go_roundw
            case rel => exact ⟨k + 1, by omega, by go_num, _, rfl⟩
            case measure => simp [intOf]; omega
        · have hcc := Lib.hid (implConcat_calls (w2.drewN q) _ _ L (SL.out.drewN q) (Nat.le_refl _) (by rw [hfl.out]; omega) (by omega))
          clear hx3 hx4
          go_wp2_with fail
          refine hcc.out.mono ?_
          rintro e w3 ⟨x, bx, rfl, hx, _, hb3⟩
          rw [hfl.out] at hx
          have sx := SeesI.own hx
          have s3 := (S2.out.drewN q).below hb3
          obtain ⟨A6, c6, rfl, _⟩ := own_form hx
          clear hx
          go_wp2_with fail
          refine (same_yes w3 _ _ _ _ z1 sx s3 (by omega)).mono ?_
          rintro e w4 ⟨rfl, q', rfl⟩
          go_wp2
          go_ret
          exact ⟨rfl, below_drewN ((below_drewN hB2 q).trans (hb3.mono (by have := hB2.size; exact this))) q'⟩

end Go.Proofs.Ytmfmpfcgllpflaa
