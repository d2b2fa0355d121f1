/-
  The contract of laws.sameBits: of two equal lists of words it says true. No statement is proved here.
-/
import Derived.Test.YtlibakmllogcdaaFloats
namespace Go.Proofs.Ytlibakmllogcdaa
open Go.RowKit Go.Shelf

set_option maxHeartbeats 400000 in
/-- laws.sameBits at two lists that are equal: true. -/
theorem sameBits_yes (w : World) (B B' : Nat) (va vb : Value) (zs : List Int) (ha : SeesU w B va zs) (hb : SeesU w B' vb zs) (hz : zs.length ≤ 1000000000000000000) :
    Calls Try.prog 12 #[va, vb] w fun e w' => e = .returned (.bool true) ∧ ∃ q, w' = w.drewN q := by
  obtain ⟨A1, c1, rfl, _, hs1⟩ := ha.form
  obtain ⟨A2, c2, rfl, _, hs2⟩ := hb.form
  clear ha hb
  go_enter Try.func12, Try.ntmps12
  go_wp2
  go_loopw [5] (fun i wr => ∃ k : Nat, k ≤ zs.length ∧ i = .int .i64 k ∧ ∃ q, wr = w.drewN q) (fun i _ => zs.length - (intOf i).toNat)
  case atStart => exact ⟨0, Nat.zero_le _, rfl, 0, rfl⟩
  case round =>
    obtain ⟨k, hk, rfl, q, rfl⟩ := hrel
    by_cases hlt : k < zs.length
    · obtain ⟨b1, o1, rfl, _, hx1⟩ := hs1 (by omega)
      obtain ⟨b2, o2, rfl, _, hx2⟩ := hs2 (by omega)
      have e1 := hx1 k hlt
      have e2 := hx2 k hlt
      clear hx1 hx2 hs1 hs2
      go_wp2
      go_quiet (fail)
      go_wp2
      go_roundw
      case rel => exact ⟨k + 1, by omega, by go_num, _, rfl⟩
      case measure => simp [intOf]; omega
    · clear hs1 hs2
      go_wp2
      go_ret
      exact ⟨rfl, q, rfl⟩

end Go.Proofs.Ytlibakmllogcdaa
