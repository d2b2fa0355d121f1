/-
  The walk of the law FnExactWalkChunk: it returns true and writes nothing that was there.
-/
import Derived.Test.YtmfmpfcgllpflaaSameLists
import Derived.Test.YtmfmpfcgllpflaaSpecWalkChunk
namespace Go.Proofs.Ytmfmpfcgllpflaa
open Go.RowKit Go.Shelf

theorem partsL_lt {zs : List Int} {m : Nat} {l : List Int} (h : l ∈ partsL zs m) : l.length ≤ zs.length := by
  obtain ⟨k, _, rfl⟩ := List.mem_map.1 h
  simp
  omega

set_option maxHeartbeats 1000000 in
theorem fnExactWalkChunk_walk (w : World) (v0 : Value) (z0 : List Int) (a1 a2 : Int) (s0 : SeesI w w.heap.size v0 z0) (b0 : z0.length ≤ 1048576) (_ : ∀ z ∈ z0, (Lit.int .i64 z).wf = true) (f1 : (Lit.int .i64 a1).wf = true) (_ : (Lit.int .i64 a2).wf = true) :
    Calls Try.prog 4 #[v0, .int .i64 a1, .int .i64 a2] w fun e w' => e = .returned (.bool true) ∧ Below w.heap.size w w' := by
  by_cases hlt : a1 < 1
  · obtain ⟨A0, c0, rfl, _⟩ := s0.form
    have hc := Lib.hid (walkChunk_never w A0 z0.length c0 a1 a2 hlt)
    have hs := Lib.hid (fun W => specWalkChunk_never W A0 z0.length c0 a1 a2 hlt)
    have nL : ∀ W : World, SeesL W W.heap.size (.slice none 0 0) [] := fun W => ⟨[], ⟨rfl, none, 0, rfl, Nat.le_refl _, fun h => absurd h (Nat.lt_irrefl _)⟩, fun i hi => by cases hi⟩
    have nI : ∀ W : World, SeesI W W.heap.size (.slice none 0 0) [] := fun W => ⟨rfl, none, 0, rfl, Nat.le_refl _, fun h => absurd h (Nat.lt_irrefl _)⟩
    go_enter Try.func4, Try.ntmps4
    go_wp2_with fail
    refine hc.out.mono ?_
    rintro e w1 ⟨rfl, hb1⟩
    go_wp2_with fail
    refine (hs.out w1).mono ?_
    rintro e w2 ⟨rfl, rfl⟩
    go_wp2_with fail
    refine (sameLists_yes w1 _ _ _ _ [] (nL _) (nL _) (by simp) (by simp)).mono ?_
    rintro e w2 ⟨rfl, q, rfl⟩
    go_wp2_with fail
    refine (same_yes _ _ _ _ _ [] (nI _) (nI _) (by simp)).mono ?_
    rintro e w3 ⟨rfl, q', rfl⟩
    go_wp2
    go_ret
    exact ⟨rfl, below_drewN hb1 _⟩
  · obtain ⟨m, rfl⟩ := Int.eq_ofNat_of_zero_le (show 0 ≤ a1 by omega)
    have hm63 : m ≤ 9223372036854775807 := by have := wf_le f1; omega
    have hcl := cntS_le z0.length m (by omega)
    have hpl : ((partsL z0 m).take a2.toNat).length ≤ 1000000000000000000 := by rw [List.length_take, partsL_length]; omega
    have hll : ∀ l ∈ (partsL z0 m).take a2.toNat, l.length ≤ 1000000000000000000 := fun l hl => by have := partsL_lt (List.mem_of_mem_take hl); omega
    have hc := Lib.hid (walkChunk_calls w v0 z0 m a2 s0 (by omega) hm63 (by omega))
    have hs' := Lib.hid (fun (w1 : World) (s1 : SeesI w1 w1.heap.size v0 z0) => specWalkChunk_calls w1 v0 z0 m a2 s1 (by omega) hm63 (by omega))
    generalize (partsL z0 m).take a2.toNat = L at hpl hll hc hs'
    have Hll := Lib.hid hll
    clear hll hcl
    obtain ⟨A0, c0, hv0, _⟩ := id s0.form
    have S0 := Lib.hid s0
    clear s0
    subst hv0
    go_enter Try.func4, Try.ntmps4
    go_wp2_with fail
    refine hc.out.mono ?_
    rintro e w1 ⟨v1, u1, rfl, hh1, hu1, hb1⟩
    have hs := Lib.hid (hs'.out w1 ((S0.out.below hb1).more hb1.size))
    have sL1 := hh1.sees
    have sI1 := SeesI.own (zs := L.map fun l => (l.length : Int)) (by rw [List.length_map, List.map_map]; exact hu1)
    obtain ⟨A1, c1, rfl, _⟩ := own_form hu1
    obtain ⟨ps1, _, hr1, _⟩ := hh1
    obtain ⟨A2, c2, rfl, _⟩ := own_form hr1
    clear hr1 hu1 hc hs'
    go_wp2_with fail
    refine hs.out.mono ?_
    rintro e w2 ⟨v2, u2, rfl, hh2, hu2, hb2⟩
    have sL2 := hh2.sees
    have sI2 := SeesI.own (zs := L.map fun l => (l.length : Int)) (by rw [List.length_map, List.map_map]; exact hu2)
    have hB2 := hb1.trans (hb2.mono hb1.size)
    have tL1 := sL1.below hb2
    have tI1 := sI1.below hb2
    obtain ⟨A3, c3, rfl, _⟩ := own_form hu2
    obtain ⟨ps2, _, hr2, _⟩ := hh2
    obtain ⟨A4, c4, rfl, _⟩ := own_form hr2
    have hsm := Lib.hid (sameLists_yes w2 _ _ _ _ _ tL1 sL2 hpl Hll.out)
    have hsi := Lib.hid (fun q => same_yes (w2.drewN q) _ _ _ _ _ (tI1.drewN q) (sI2.drewN q) (by rw [List.length_map]; exact hpl))
    clear hr2 hu2 sL1 sI1 sL2 sI2 tL1 tI1 hpl hs
    go_wp2_with fail
    refine hsm.out.mono ?_
    rintro e w3 ⟨rfl, q, rfl⟩
    go_wp2_with fail
    refine (hsi.out q).mono ?_
    rintro e w4 ⟨rfl, q', rfl⟩
    go_wp2
    go_ret
    exact ⟨rfl, below_drewN hB2 _⟩

end Go.Proofs.Ytmfmpfcgllpflaa
