/-
  The contract of spec.ahead. No statement is proved here.
-/
import Derived.Test.YtlibakmllogcdaaTexts
import Derived.BigQuiet
namespace Go.Proofs.Ytlibakmllogcdaa
open Go.RowKit Go.Shelf Go.Sort

theorem lt_at : ∀ (i : Nat) (x y : List UInt8) (hx : i < x.length) (hy : i < y.length), x.take i = y.take i → x[i] ≠ y[i] → (x < y ↔ x[i] < y[i])
  | 0, a :: x, b :: y, _, _, _, hne => by
    simp only [List.getElem_cons_zero] at hne ⊢
    rw [List.cons_lt_cons_iff]
    exact ⟨fun h => h.elim id (fun h => absurd h.1 hne), .inl⟩
  | i + 1, a :: x, b :: y, hx, hy, ht, hne => by
    simp only [List.getElem_cons_succ] at hne ⊢
    simp only [List.take_succ_cons, List.cons.injEq] at ht
    rw [List.cons_lt_cons_iff, ← lt_at i x y (by simpa using hx) (by simpa using hy) ht.2 hne]
    exact ⟨fun h => h.elim (fun h => absurd (ht.1 ▸ h) (by simp)) (·.2), fun h => .inr ⟨ht.1, h⟩⟩
theorem lt_end : ∀ (i : Nat) (x y : List UInt8), i ≤ x.length → i ≤ y.length → x.take i = y.take i → (i = x.length ∨ i = y.length) → (x < y ↔ x.length < y.length)
  | 0, [], y, _, _, _, _ => by cases y <;> simp
  | 0, a :: x, [], _, _, _, _ => by simp
  | 0, a :: x, b :: y, _, _, _, h => by simp at h
  | i + 1, a :: x, b :: y, hx, hy, ht, h => by
    simp only [List.take_succ_cons, List.cons.injEq] at ht
    simp only [List.length_cons, Nat.add_right_cancel_iff] at h
    rw [List.cons_lt_cons_iff, List.length_cons, List.length_cons, lt_end i x y (by simpa using hx) (by simpa using hy) ht.2 h]
    refine ⟨fun h => h.elim (fun h => absurd (ht.1 ▸ h) (by simp)) (fun h => by omega), fun h => .inr ⟨ht.1, by omega⟩⟩
  | i + 1, [], _, h, _, _, _ => by simp at h
  | i + 1, _, [], _, h, _, _ => by simp at h
theorem take_same_step {x y : List UInt8} {i : Nat} (hx : i < x.length) (hy : i < y.length) (h : x.take i = y.take i) (he : x[i] = y[i]) : x.take (i + 1) = y.take (i + 1) := by
  rw [List.take_succ_eq_append_getElem hx, List.take_succ_eq_append_getElem hy, h, he]

theorem drewN_ex (w : World) (a b c : Nat) : ∃ k, ((w.drewN a).drewN b).drewN c = w.drewN k := ⟨a + b + c, by simp [World.drewN, Nat.add_assoc]⟩
/-- A text's byte. -/
theorem run_byte {P : Program} (hu : P.underlying 9 = some .string) (x : List UInt8) (k : Nat) (h : k < x.length) (w : World) :
    (Instr.index 9 (encStr x) (.int .i64 (k : Int))).run P w = .ok (.int .u8 (x[k].toNat : Int)) w := by
  rw [run_index_string w 9 _ .i64 _ hu]
  have hs : (⟨x.toArray⟩ : ByteArray).size = x.length := by simp [ByteArray.size]
  rw [dif_pos ⟨by omega, by rw [hs]; omega⟩]
  simp [ByteArray.getElem_eq_getElem_data]

set_option maxHeartbeats 1000000 in
/-- spec.ahead -/
theorem ahead_calls (x y : List UInt8) (hx : x.length ≤ 9223372036854775807) (_ : y.length ≤ 9223372036854775807) (w : World) :
    Calls Try.prog 16 #[encStr x, encStr y] w fun e w' => e = .returned (.bool (decide (x < y))) ∧ ∃ q, w' = w.drewN q := by
  go_enter Try.func16, Try.ntmps16
  go_wp2
  go_loopw [5] (fun i wr => ∃ k q : Nat, i = .int .i64 k ∧ k ≤ x.length ∧ k ≤ y.length ∧ x.take k = y.take k ∧ wr = w.drewN q) (fun i _ => x.length - (intOf i).toNat)
  case atStart => exact ⟨0, 0, rfl, Nat.zero_le _, Nat.zero_le _, rfl, rfl⟩
  case round =>
    obtain ⟨k, q, rfl, hkx, hky, ht, rfl⟩ := hrel
    have Ht := Lib.hid ht
    clear ht
    by_cases h1 : (k : Int) < (x.length : Int)
    · by_cases h2 : (k : Int) < (y.length : Int)
      · have h1' : k < x.length := by omega
        have h2' : k < y.length := by omega
        have r1 := fun W => run_byte (P := Try.prog) Try.underlying9 x k h1' W
        have r2 := fun W => run_byte (P := Try.prog) Try.underlying9 y k h2' W
        by_cases he : x[k] = y[k]
        · have hst := Lib.hid (take_same_step h1' h2' Ht.out he)
          rw [he] at r1
          go_wp2
          go_quiet (fail)
          go_wp2
          go_roundw
          case rel => exact ⟨k + 1, _, by go_num, by omega, by omega, hst.out, rfl⟩
          case measure => simp [intOf]; omega
        · have hl := Lib.hid (lt_at k x y h1' h2' Ht.out he)
          have hne : ¬ ((x[k].toNat : Nat) : Int) = ((y[k].toNat : Nat) : Int) := fun h => he (UInt8.toNat_inj.1 (by omega))
          have hlt := Lib.hid (UInt8.lt_iff_toNat_lt (a := x[k]) (b := y[k]))
          clear he
          generalize x[k].toNat = a at r1 hne hlt
          generalize y[k].toNat = b at r2 hne hlt
          go_wp2
          go_quiet (fail)
          go_wp2
          go_quiet (fail)
          go_wp2
          go_ret
          refine ⟨?_, drewN_ex _ _ _ _⟩
          have e : decide (a < b) = decide (x < y) := decide_eq_decide.2 (by rw [hl.out, hlt.out])
          exact congrArg (fun b => Ending.returned (.bool b)) e
      · have hl := Lib.hid (lt_end k x y hkx hky Ht.out (.inr (by omega)))
        go_wp2
        go_ret
        refine ⟨?_, _, rfl⟩
        have e : decide (x.length < y.length) = decide (x < y) := decide_eq_decide.2 (by rw [hl.out])
        exact congrArg (fun b => Ending.returned (.bool b)) e
    · have hl := Lib.hid (lt_end k x y hkx hky Ht.out (.inl (by omega)))
      go_wp2
      go_ret
      refine ⟨?_, _, rfl⟩
      have e : decide (x.length < y.length) = decide (x < y) := decide_eq_decide.2 (by rw [hl.out])
      exact congrArg (fun b => Ending.returned (.bool b)) e

theorem ahead_no (x y : List UInt8) (hx : x.length ≤ 9223372036854775807) (hy : y.length ≤ 9223372036854775807) (h : y ≤ x) (w : World) :
    Calls Try.prog 16 #[encStr x, encStr y] w fun e w' => e = .returned (.bool false) ∧ ∃ q, w' = w.drewN q := by
  have := ahead_calls x y hx hy w
  rwa [decide_eq_false (List.not_lt.2 h)] at this
theorem ahead_yes (x y : List UInt8) (hx : x.length ≤ 9223372036854775807) (hy : y.length ≤ 9223372036854775807) (h : x < y) (w : World) :
    Calls Try.prog 16 #[encStr x, encStr y] w fun e w' => e = .returned (.bool true) ∧ ∃ q, w' = w.drewN q := by
  have := ahead_calls x y hx hy w
  rwa [decide_eq_true h] at this

theorem calls_quietT {P : Program} {f : FuncId} {args : Array Value} {w : World} {q n : Nat} {v : Value}
    (h : Calls P f args (w.drewN (q + n)) fun e w' => e = .returned v ∧ ∃ m, w' = (w.drewN (q + n)).drewN m) : Calls P f args (w.drewN (q + n)) fun e w'' => e = .returned v ∧ ∃ m, w'' = w.drewN (q + m) :=
  h.mono fun _ _ ⟨he, m, hm⟩ => ⟨he, n + m, by rw [hm, World.drewN_drewN, Nat.add_assoc]⟩

end Go.Proofs.Ytlibakmllogcdaa
