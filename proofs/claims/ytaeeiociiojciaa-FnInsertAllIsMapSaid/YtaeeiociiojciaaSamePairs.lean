/-
  The contract of laws.samePairs: of two equal lists of pairs it says true. No statement is proved here.
-/
import Derived.Test.YtaeeiociiojciaaPairs
namespace Go.Proofs.Ytaeeiociiojciaa
open Go.RowKit Go.Shelf

set_option maxHeartbeats 400000 in
/-- laws.samePairs at two lists that are equal: true. -/
theorem samePairs_yes (w : World) (B B' : Nat) (va vb : Value) (ps : List (Int × Int)) (ha : SeesP w B va ps) (hb : SeesP w B' vb ps) (hz : ps.length ≤ 100000000000000000) :
    Calls Try.prog 14 #[va, vb] w fun e w' => e = .returned (.bool true) ∧ ∃ q, w' = w.drewN q := by
  obtain ⟨A1, c1, rfl, _, hs1⟩ := ha.form
  obtain ⟨A2, c2, rfl, _, hs2⟩ := hb.form
  clear ha hb
  go_enter Try.func14, Try.ntmps14
  go_wp2
  go_loopw [5] (fun i wr => ∃ k : Nat, k ≤ ps.length ∧ i = .int .i64 k ∧ ∃ q, wr = w.drewN q) (fun i _ => ps.length - (intOf i).toNat)
  case atStart => exact ⟨0, Nat.zero_le _, rfl, 0, rfl⟩
  case round =>
    obtain ⟨k, hk, rfl, q, rfl⟩ := hrel
    by_cases hlt : k < ps.length
    · obtain ⟨b1, o1, rfl, _, hx1⟩ := hs1 (by omega)
      obtain ⟨b2, o2, rfl, _, hx2⟩ := hs2 (by omega)
      obtain ⟨e1, e2⟩ := hx1 k hlt
      obtain ⟨e3, e4⟩ := hx2 k hlt
      clear hx1 hx2 hs1 hs2
      generalize ps[k].1 = x at e1 e3
      generalize ps[k].2 = y at e2 e4
      go_wp2
      go_quiet (fail)
      go_wp2
      go_roundw
      case rel => exact ⟨k + 1, by omega, by go_num, _, rfl⟩
      case measure => simp [intOf]; omega
    · clear hs1 hs2
      go_wp2
      go_ret
      exact ⟨rfl, q, rfl⟩

end Go.Proofs.Ytaeeiociiojciaa
