/-
  The contract of laws.sameLists: of two equal lists of lists it says true. No statement is proved here.
-/
import Derived.Test.YtmfmpfcgllpflaaSame
import Derived.Test.YtmfmpfcgllpflaaLists
import Derived.Deep.QuietTactic
import Derived.BigQuiet
namespace Go.Proofs.Ytmfmpfcgllpflaa
open Go.RowKit Go.Shelf

theorem calls_quietS {P : Program} {f : FuncId} {args : Array Value} {w : World} {q n : Nat} {v : Value}
    (h : Calls P f args (w.drewN (q + n)) fun e w' => e = .returned v ∧ ∃ k, w' = (w.drewN (q + n)).drewN k) : Calls P f args (w.drewN (q + n)) fun e w'' => e = .returned v ∧ ∃ m, w'' = w.drewN (q + m) :=
  h.mono fun _ _ ⟨he, k, hm⟩ => ⟨he, n + k, hm.trans (by simp [World.drewN, Nat.add_assoc])⟩

set_option maxHeartbeats 1000000 in
/-- laws.sameLists at two lists that are equal: true. -/
theorem sameLists_yes (w : World) (B B' : Nat) (va vb : Value) (L : List (List Int)) (ha : SeesL w B va L) (hb : SeesL w B' vb L) (hz : L.length ≤ 1000000000000000000) (hl : ∀ l ∈ L, l.length ≤ 1000000000000000000) :
    Calls Try.prog 17 #[va, vb] w fun e w' => e = .returned (.bool true) ∧ ∃ q, w' = w.drewN q := by
  obtain ⟨A1, c1, rfl, _, hs1⟩ := ha.form
  obtain ⟨A2, c2, rfl, _, hs2⟩ := hb.form
  clear ha hb
  go_enter Try.func17, Try.ntmps17
  go_wp2
  go_loopw [5] (fun i wr => ∃ k : Nat, k ≤ L.length ∧ i = .int .i64 k ∧ ∃ q, wr = w.drewN q) (fun i _ => L.length - (intOf i).toNat)
  case atStart => exact ⟨0, Nat.zero_le _, rfl, 0, rfl⟩
  case round =>
    obtain ⟨k, hk, rfl, q, rfl⟩ := hrel
    by_cases hlt : k < L.length
    · obtain ⟨b1, o1, rfl, _, hx1⟩ := hs1 (by omega)
      obtain ⟨b2, o2, rfl, _, hx2⟩ := hs2 (by omega)
      obtain ⟨u1, e1, t1⟩ := hx1 k hlt
      obtain ⟨u2, e2, t2⟩ := hx2 k hlt
      have hsame := Lib.hid (fun q => same_yes (w.drewN q) _ _ u1 u2 L[k] (t1.drewN q) (t2.drewN q) (hl _ (List.getElem_mem hlt)))
      obtain ⟨A3, c3, rfl, _⟩ := t1.form
      obtain ⟨A4, c4, rfl, _⟩ := t2.form
      clear hx1 hx2 hs1 hs2 t1 t2 hl
      generalize L[k] = lk at hsame e1 e2
      go_wp2
      go_quiet ((go_at_call 14; exact calls_quietS (hsame.out _)))
      go_wp2
      go_roundw
      case rel => exact ⟨k + 1, by omega, by go_num, _, rfl⟩
      case measure => simp [intOf]; omega
    · clear hs1 hs2
      go_wp2
      go_ret
      exact ⟨rfl, q, rfl⟩

end Go.Proofs.Ytmfmpfcgllpflaa
