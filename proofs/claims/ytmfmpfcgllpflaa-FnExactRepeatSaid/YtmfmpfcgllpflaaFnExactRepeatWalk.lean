/-
  The walk of the law FnExactRepeat: it returns true and writes nothing that was there.
-/
import Derived.Test.YtmfmpfcgllpflaaSame
import Derived.Test.YtmfmpfcgllpflaaImplRepeat
namespace Go.Proofs.Ytmfmpfcgllpflaa
open Go.RowKit Go.Shelf

set_option maxRecDepth 100000 in
set_option maxHeartbeats 1000000 in
theorem fnExactRepeat_walk (w : World) (v0 : Value) (z0 : List Int) (m : Int) (s0 : SeesI w w.heap.size v0 z0) (b0 : z0.length * 8 ≤ 140737488351232) (_ : ∀ z ∈ z0, (Lit.int .i64 z).wf = true) (f1 : (Lit.int .i64 m).wf = true) :
    Calls Try.prog 8 #[v0, .int .i64 m] w fun e w' => e = .returned (.bool true) ∧ Below w.heap.size w w' := by
  have hm : m ≤ 9223372036854775807 := by
    simp [Lit.wf, IntKind.min, IntKind.max, IntKind.signed, IntKind.bits] at f1
    omega
  clear f1
  obtain ⟨A, c, rfl, _⟩ := s0.form
  have ht := Lib.hid (tooOften_calls w z0.length m hm)
  by_cases h1 : m < 0 ∨ 9223372036854775807 < (z0.length : Int) * m
  · have hn := Lib.hid (implRepeat_never w A z0.length c m (by
      intro w
      by_cases h : m < 0
      · exact repeat_below A z0.length c m h w
      · obtain ⟨k, rfl⟩ : ∃ k : Nat, m = (k : Int) := ⟨m.toNat, by omega⟩
        have h3 := h1.resolve_left h
        rw [← Int.natCast_mul] at h3
        exact repeat_over A z0.length c k (by omega) (by omega) (by omega) w))
    have h1' := Lib.hid h1
    clear h1 s0
    go_enter Try.func8, Try.ntmps8
    go_wp2_with fail
    refine ht.out.mono ?_
    rintro e w1 ⟨b, rfl, hb, rfl⟩
    obtain rfl : b = true := hb.2 h1'.out
    clear hb
    go_wp2_with fail
    refine hn.out.mono ?_
    rintro e w2 ⟨rfl, hb2⟩
    go_wp2
    go_ret
    exact ⟨rfl, hb2⟩
  · obtain ⟨k, rfl⟩ : ∃ k : Nat, m = (k : Int) := ⟨m.toNat, by omega⟩
    have h1' := Lib.hid h1
    by_cases h2 : (65536 : Int) / (z0.length : Int) < (k : Int) ∧ 0 < z0.length
    · obtain ⟨h3, h4⟩ := h2
      have h5 : (0 : Int) < (z0.length : Int) := by omega
      have h6 : ¬ (z0.length : Int) = 0 := by omega
      clear h1 s0
      go_enter Try.func8, Try.ntmps8
      go_wp2_with fail
      refine ht.out.mono ?_
      rintro e w1 ⟨b, rfl, hb, rfl⟩
      obtain rfl : b = false := by
        cases b with
        | false => rfl
        | true => exact absurd (hb.1 rfl) h1'.out
      clear hb
      go_wp2
      go_ret
      exact ⟨rfl, Below.refl _ _⟩
    · have hle : k * z0.length ≤ 65536 := by
        rcases Nat.eq_zero_or_pos z0.length with h | h
        · rw [h]; omega
        · have h3 : ¬ (65536 : Int) / (z0.length : Int) < (k : Int) := fun h' => h2 ⟨h', h⟩
          rw [Int.ediv_lt_iff_lt_mul (by omega), ← Int.natCast_mul] at h3
          omega
      have hr := Lib.hid (implRepeat_calls w _ z0 k s0 hle (by omega) (by omega))
      have hlen : (rep z0 k).length = k * z0.length := rep_length _ _
      have hmul : (z0.length : Int) * (k : Int) = ((rep z0 k).length : Int) := by rw [hlen, Int.natCast_mul, Int.mul_comm]
      have hwr : IntKind.i64.wrap ((z0.length : Int) * (k : Int)) = ((rep z0 k).length : Int) := by rw [hmul]; exact IntWalk.i64_in _ (by omega)
      have S0 := s0
      clear h1 s0
      go_enter Try.func8, Try.ntmps8
      go_wp2_with fail
      refine ht.out.mono ?_
      rintro e w1 ⟨b, rfl, hb, rfl⟩
      obtain rfl : b = false := by
        cases b with
        | false => rfl
        | true => exact absurd (hb.1 rfl) h1'.out
      clear hb
      have S1 := Lib.hid S0
      obtain ⟨N, hN⟩ : ∃ N, N = (rep z0 k).length := ⟨_, rfl⟩
      obtain ⟨n, hn⟩ : ∃ n, n = z0.length := ⟨_, rfl⟩
      have HN := Lib.hid hN
      have Hn := Lib.hid hn
      have hN0 := Lib.hid (hN.trans hlen)
      rw [← hN, ← hn] at hwr
      rw [← hN] at hlen
      have g0 : n = 0 ∨ (0 : Int) < (n : Int) ∧ ¬ (65536 : Int) / (n : Int) < (k : Int) := by
        rw [hn]
        rcases Nat.eq_zero_or_pos z0.length with h | h
        · exact .inl h
        · exact .inr ⟨by omega, fun h' => h2 ⟨h', h⟩⟩
      rw [← hn] at hr S1 b0 ⊢
      have hNle : N ≤ 65536 := by omega
      have hl0 : z0.length ≤ 1000000000000000000 := by omega
      have hk0 : k ≤ 9223372036854775807 := by omega
      have Hle := Lib.hid hle
      have Hl0 := Lib.hid hl0
      clear hmul hlen hN hn h2 S0 hle hl0
      rcases g0 with rfl | ⟨g0, g1⟩
      · obtain rfl : N = 0 := by rw [hN0.out, ← Hn.out, Nat.mul_zero]
        clear hwr
        go_wp2_with fail
        refine hr.out.mono ?_
        rintro e w2 ⟨g, rfl, hr2, hb2⟩
        have s2 := SeesI.own hr2
        have hs2 := hb2.size
        have t2 := S1.out.below hb2
        rw [← HN.out] at s2 ⊢
        have hsp := Lib.hid (specRepeat_calls w2 _ _ z0 k t2 hs2 Hle.out Hl0.out hk0)
        clear t2 hr2
        go_wp2_with fail
        refine hsp.out.mono ?_
        rintro e w3 ⟨v3, rfl, hr3, hb3⟩
        have s3 := SeesI.own hr3
        obtain ⟨A3, c3, rfl, _⟩ := own_form hr3
        have hsm := Lib.hid (same_yes w3 _ _ _ _ (rep z0 k) (s2.below hb3) s3 (by rw [← HN.out]; omega))
        rw [← HN.out] at hsm ⊢
        clear s2 s3 hr3
        go_wp2_with fail
        refine hsm.out.mono ?_
        rintro e w4 ⟨rfl, q, rfl⟩
        go_wp2
        go_ret
        exact ⟨rfl, below_drewN (hb2.trans (hb3.mono hs2)) q⟩
      · have g2 : ¬ (n : Int) = 0 := by omega
        go_wp2_with fail
        refine hr.out.mono ?_
        rintro e w2 ⟨g, rfl, hr2, hb2⟩
        have s2 := SeesI.own hr2
        have hs2 := hb2.size
        have t2 := S1.out.below hb2
        rw [← HN.out] at s2 ⊢
        have hsp := Lib.hid (specRepeat_calls w2 _ _ z0 k t2 hs2 Hle.out Hl0.out hk0)
        clear t2 hr2
        go_wp2_with fail
        refine hsp.out.mono ?_
        rintro e w3 ⟨v3, rfl, hr3, hb3⟩
        have s3 := SeesI.own hr3
        obtain ⟨A3, c3, rfl, _⟩ := own_form hr3
        have hsm := Lib.hid (same_yes w3 _ _ _ _ (rep z0 k) (s2.below hb3) s3 (by rw [← HN.out]; omega))
        rw [← HN.out] at hsm ⊢
        clear s2 s3 hr3
        go_wp2_with fail
        refine hsm.out.mono ?_
        rintro e w4 ⟨rfl, q, rfl⟩
        go_wp2
        go_ret
        exact ⟨rfl, below_drewN (hb2.trans (hb3.mono hs2)) q⟩

end Go.Proofs.Ytmfmpfcgllpflaa
