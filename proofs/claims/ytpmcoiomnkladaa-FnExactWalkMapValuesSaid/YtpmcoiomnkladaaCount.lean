/-
  The contracts of laws.count and laws.isIn. No statement is proved here.
-/
import Derived.Test.YtpmcoiomnkladaaBase
namespace Go.Proofs.Ytpmcoiomnkladaa
open Go.RowKit Go.Shelf

theorem count_snoc (xs : List Int) (x z : Int) : (xs ++ [x]).count z = xs.count z + (if x = z then 1 else 0) := by
  rw [List.count_append, List.count_singleton]
  by_cases h : x = z <;> simp [h]

theorem calls_quiet {P : Program} {f : FuncId} {args : Array Value} {w : World} {q n : Nat} {v : Value}
    (h : Calls P f args (w.drewN (q + n)) fun e w' => e = .returned v ∧ w.drewN (q + n) = w') : Calls P f args (w.drewN (q + n)) fun e w'' => e = .returned v ∧ ∃ m, w'' = w.drewN (q + m) :=
  h.mono fun _ _ ⟨he, hm⟩ => ⟨he, n, hm.symm⟩

set_option maxHeartbeats 400000 in
/-- laws.count -/
theorem count_calls (w : World) (B : Nat) (va : Value) (zs : List Int) (z : Int) (ha : SeesI w B va zs) (hz : zs.length ≤ 1000000000000000000) :
    Calls Try.prog 20 #[va, .int .i64 z] w fun e w' => e = .returned (.int .i64 ((zs.count z : Nat) : Int)) ∧ w = w' := by
  obtain ⟨A1, c1, rfl, _, hs1⟩ := ha.form
  clear ha
  go_enter Try.func20, Try.ntmps20
  go_wp2
  go_loopw [5, 6] (fun c i wr => ∃ k n : Nat, k ≤ zs.length ∧ i = .int .i64 k ∧ c = .int .i64 n ∧ n ≤ k ∧ n = (zs.take k).count z ∧ w = wr) (fun _ i _ => zs.length - (intOf i).toNat)
  case atStart => exact ⟨0, 0, Nat.zero_le _, rfl, rfl, Nat.zero_le _, rfl, rfl⟩
  case round =>
    obtain ⟨k, n, hk, rfl, rfl, hnk, hn, rfl⟩ := hrel
    by_cases hlt : k < zs.length
    · obtain ⟨b1, o1, rfl, _, hx1⟩ := hs1 (by omega)
      have e1 := hx1 k hlt
      have hsn := Lib.hid (take_snoc_getD zs hlt)
      have Hn := Lib.hid hn
      clear hx1 hs1 hn
      generalize zs[k]?.getD 0 = x at e1 hsn
      by_cases hxz : x = z
      · subst hxz
        go_wp2
        go_roundw
        case rel => exact ⟨k + 1, n + 1, by omega, by go_num, by go_num, by omega, by rw [hsn.out, count_snoc, ← Hn.out]; simp, trivial⟩
        case measure => simp [intOf]; omega
      · go_wp2
        go_roundw
        case rel => exact ⟨k + 1, n, by omega, by go_num, rfl, by omega, by rw [hsn.out, count_snoc, ← Hn.out]; simp [hxz], trivial⟩
        case measure => simp [intOf]; omega
    · obtain rfl : k = zs.length := by omega
      rw [List.take_of_length_le (Nat.le_refl _)] at hn
      have Hn := Lib.hid hn
      clear hs1 hn
      go_wp2
      go_ret
      exact ⟨by rw [Hn.out]; rfl, rfl⟩

/-- laws.isIn at a number that is there. -/
theorem isIn_yes (w : World) (B : Nat) (va : Value) (zs : List Int) (z : Int) (ha : SeesI w B va zs) (hz : zs.length ≤ 1000000000000000000) (hm : z ∈ zs) :
    Calls Try.prog 16 #[va, .int .i64 z] w fun e w' => e = .returned (.bool true) ∧ w = w' := by
  have hc := Lib.hid (count_calls w B va zs z ha hz)
  have hp : 0 < zs.count z := List.count_pos_iff.2 hm
  obtain ⟨A1, c1, rfl, _, hs1⟩ := ha.form
  clear ha hm hs1
  go_enter Try.func16, Try.ntmps16
  go_wp2_with fail
  refine hc.out.mono ?_
  rintro e w' ⟨rfl, rfl⟩
  generalize zs.count z = n at hp
  go_wp2
  go_ret
  exact ⟨rfl, rfl⟩

end Go.Proofs.Ytpmcoiomnkladaa
