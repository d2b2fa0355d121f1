/-
  The contracts of spec.at and spec.Has. No statement is proved here.
-/
import Derived.Test.YtpmcoiomnkladaaMapLaw
namespace Go.Proofs.Ytpmcoiomnkladaa
open Go.RowKit Go.Shelf

/-- As far as the loop of spec.at has come: the hind pairs have not got the key. -/
theorem mkm_at {ps : List (Int × Int)} {k : Nat} (hk : k < ps.length) (hno : ∀ j (h : j < ps.length), k < j → ps[j].1 ≠ ps[k].1) : mkm ps ps[k].1 = some ps[k].2 := by
  have h1 : ps = ps.take k ++ [ps[k]] ++ ps.drop (k + 1) := by
    rw [← take_snoc ps hk, List.take_append_drop]
  have key : ∀ (qs : List (Int × Int)) (f : FMap) (x : Int), (∀ q ∈ qs, q.1 ≠ x) → ups f qs x = f x := by
    intro qs
    induction qs with
    | nil => intro f x _; rfl
    | cons q qs ih =>
      intro f x hq
      show ups (upd f q.1 q.2) qs x = f x
      rw [ih _ x (fun y hy => hq y (List.mem_cons_of_mem _ hy)), upd_other _ _ (Ne.symm (hq q List.mem_cons_self))]
  generalize hx : ps[k].1 = x at hno ⊢
  generalize hy : ps[k].2 = y
  rw [h1, mkm_append, key _ _ x, mkm_snoc, ← hx, upd_same, hy]
  intro q hq
  obtain ⟨j, hj, e⟩ := List.getElem_of_mem hq
  rw [List.getElem_drop] at e
  rw [← e]
  exact hno _ _ (by omega)

set_option maxHeartbeats 400000 in
/-- spec.at at a key that is there. -/
theorem specAt_yes (w : World) (B : Nat) (va : Value) (ps : List (Int × Int)) (x y : Int) (ha : SeesP w B va ps) (hz : ps.length ≤ 100000000000000000) (hm : mkm ps x = some y) :
    Calls Try.prog 37 #[va, .int .i64 x] w fun e w' => e = .returned (.tuple #[.int .i64 y, .bool true]) ∧ w = w' := by
  obtain ⟨A1, c1, rfl, _, hs1⟩ := ha.form
  have Hm := Lib.hid hm
  clear ha hm
  go_enter Try.func37, Try.ntmps37
  go_wp2
  go_loopw [6] (fun i wr => ∃ k : Nat, k ≤ ps.length ∧ i = .int .i64 ((k : Int) - 1) ∧ (∀ j (h : j < ps.length), k ≤ j → ps[j].1 ≠ x) ∧ w = wr) (fun i _ => (intOf i + 1).toNat)
  case atStart => exact ⟨ps.length, Nat.le_refl _, rfl, fun j h hj => by omega, rfl⟩
  case round =>
    obtain ⟨k, hk, rfl, hno, rfl⟩ := hrel
    rcases Nat.eq_zero_or_pos k with h0 | h0
    · exfalso
      subst h0
      obtain ⟨j, hj, e⟩ := List.getElem_of_mem (mkm_mem Hm.out)
      exact hno j hj (Nat.zero_le _) (by rw [e])
    · obtain ⟨b1, o1, rfl, _, hx1⟩ := hs1 (by omega)
      obtain ⟨j, rfl⟩ : ∃ j, k = j + 1 := ⟨k - 1, by omega⟩
      obtain ⟨e1, e2⟩ := hx1 j (by omega)
      have hat := Lib.hid (mkm_at (ps := ps) (k := j) (by omega))
      have Hno := Lib.hid hno
      clear hx1 hs1 hno
      by_cases hxz : ps[j].1 = x
      · have hy : ps[j].2 = y := by
          have := hat.out (fun i h hi => by rw [hxz]; exact Hno.out i h (by omega))
          rw [hxz, Hm.out] at this
          injection this with this
          exact this.symm
        rw [hxz] at e1
        rw [hy] at e2
        clear hxz hy hat
        go_wp2
        all_goals (go_ret2; exact ⟨rfl, rfl⟩)
      · have Hno' : ∀ i (h : i < ps.length), j ≤ i → ps[i].1 ≠ x := fun i h hi => by
          rcases Nat.lt_or_eq_of_le hi with h1 | h1
          · exact Hno.out i h h1
          · subst h1; exact hxz
        have HN := Lib.hid Hno'
        clear Hno' hat
        generalize ps[j].1 = u at e1 hxz
        go_wp2
        go_roundw
        case rel => exact ⟨j, by omega, by go_num, HN.out, trivial⟩
        case measure => simp [intOf]

set_option maxHeartbeats 400000 in
/-- spec.Has at a pair that is there. -/
theorem specHas_yes (w : World) (B : Nat) (va : Value) (ps : List (Int × Int)) (x y : Int) (ha : SeesP w B va ps) (hB : B ≤ w.heap.size) (hz : ps.length ≤ 100000000000000000) (hm : mkm ps x = some y) :
    Calls Try.prog 23 #[va, .agg #[.int .i64 x, .int .i64 y]] w fun e w' => e = .returned (.bool true) ∧ w.alloc (.cells #[.int .i64 x, .int .i64 y] 40) = w' := by
  have hb := (Below.refl w.heap.size w).alloc (Nat.le_refl _) (.cells #[.int .i64 x, .int .i64 y] 40)
  have hc := Lib.hid (specAt_yes (w.alloc (.cells #[.int .i64 x, .int .i64 y] 40)) B va ps x y (ha.below (hb.mono hB)) hz hm)
  obtain ⟨A1, c1, rfl, _, hs1⟩ := ha.form
  clear ha hm hs1
  go_enter Try.func23, Try.ntmps23
  go_wp2_with fail
  refine hc.out.mono ?_
  rintro e w' ⟨rfl, rfl⟩
  go_wp2
  go_ret
  exact ⟨by simp, rfl⟩

end Go.Proofs.Ytpmcoiomnkladaa
