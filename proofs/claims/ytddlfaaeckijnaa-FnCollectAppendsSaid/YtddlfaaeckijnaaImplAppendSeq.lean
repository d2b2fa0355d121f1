/-
  The contract of impl.AppendSeq: the numbers of both in order, and nil just if nothing is appended to nil. No statement is proved here.
-/
import Derived.Test.YtddlfaaeckijnaaAppendSeq
import Derived.Test.YtddlfaaeckijnaaNumbers
namespace Go.Proofs.Ytddlfaaeckijnaa
open Go.RowKit Go.Shelf

/-- What both have in common: the numbers zs, and whether they are nil. -/
def AppPost (w : World) (zs : List Int) (p : Prop) (e : Ending) (w' : World) : Prop :=
  ∃ v b, e = .returned (.tuple #[v, .bool b]) ∧ w'.ownsRow w.heap.size 3 1 v zs.length (zs.map (Value.int .i64)) ∧ (b = true ↔ p) ∧ Below w.heap.size w w'

set_option maxHeartbeats 1000000 in
/-- impl.AppendSeq -/
theorem implAppendSeq_calls (w : World) (va vb : Value) (isNil : Bool) (xs ys : List Int) (ha : SeesI w w.heap.size va xs) (hb : SeesI w w.heap.size vb ys) (hl : (xs.length + ys.length) * 8 ≤ 140737488355328)
    (zs : List Int) (p : Prop) (Hzs : Hid (zs = (if isNil then [] else xs) ++ ys)) (Hp : Hid (p ↔ isNil = true ∧ ys = [])) :
    Calls Try.prog 30 #[va, .bool isNil, vb] w (AppPost w zs p) := by
  obtain ⟨i0, hi, hz0, hz1, hz2⟩ := info_parts Try.infoInt
  have he := fun (W : World) (a : Option Addr) (n c : Nat) => Lib.run_eql_slice_nil (P := Try.prog) W 22 3 a n c 0 0 Try.underlying22
  have hown0 := own_empty w w.heap.size 1 3 (Nat.le_refl _)
  have hb0 := (Below.refl w.heap.size w).alloc (Nat.le_refl _) (.cells #[] 3)
  have ha0 := ha.below hb0
  obtain ⟨A, c, rfl, _⟩ := ha.form
  obtain ⟨A', c', rfl, _⟩ := hb.form
  cases isNil with
  | true =>
    go_enter Try.func30, Try.ntmps30
    go_wp2_with (first
      | (at_builtin; refine wpList_append_sees _ rfl (.tmp 10) (.tmp 11) 22 rfl w.heap.size 3 i0 (.int .i64 0) 1 8 Try.underlying22 hi hz0 hz1 hz2 rfl (by decide) (.slice (some ⟨w.heap.size, 0, none⟩) 0 0) 0 [] rfl hown0 _ _ _ _ rfl ha0 (int_cell _) (by unfold maxLen; omega) (by omega) (by simp) ?_; intro v1 w1 hown1 hg1 _ _; have hb1 := below_own hb0 hown0 hg1 (Nat.le_refl _) (by simp); clear hown0 hb0)
      | (go_at_call 44; refine (numbers_calls _ _ _ _).mono ?_; rintro e w' ⟨rfl, rfl⟩))
    have bN := Boxed.new w1 22 (.slice A' ys.length c')
    have hb2 := hb1.alloc hb1.size (.cells #[.slice A' ys.length c'] 22)
    have hsz : (w1.alloc (.cells #[.slice A' ys.length c'] 22)).heap.size = w1.heap.size + 1 := by simp
    have hs1 := hb1.size
    generalize w1.alloc (.cells #[.slice A' ys.length c'] 22) = w2 at bN hb2 hsz ⊢
    refine (appendSeq_calls w2 w.heap.size 0 ys.length _ _ (.slice none 0 0) [] (World.ownsRow_nil w2 _ _ _) (by omega) (enters_of Try.func51 (by kernel_rfl) rfl)
      (numbers_stops 4 (by omega) w1.heap.size w.heap.size _ ys (by omega) w2 (by omega) (by omega) bN.cell (hb.below hb2)) belowK_t (belowK_b (by omega)) (fun _ _ h _ => h) (by omega)).mono ?_
    rintro e w3 ⟨v, us, rfl, rfl, hr, hnil, hb3⟩
    obtain ⟨A3, c3, rfl, _⟩ := own_form hr
    have Hn := Lib.hid ((own_isNone hr).trans hnil)
    clear hnil
    go_wp2
    go_ret2
    exact ⟨_, _, rfl, by rw [Hzs.out]; simpa using hr, by rw [Hp.out]; simpa using Hn.out, hb2.trans hb3⟩
  | false =>
    go_enter Try.func30, Try.ntmps30
    go_wp2_with (first
      | (at_builtin; refine wpList_append_sees _ rfl (.tmp 10) (.tmp 11) 22 rfl w.heap.size 3 i0 (.int .i64 0) 1 8 Try.underlying22 hi hz0 hz1 hz2 rfl (by decide) (.slice (some ⟨w.heap.size, 0, none⟩) 0 0) 0 [] rfl hown0 _ _ _ _ rfl ha0 (int_cell _) (by unfold maxLen; omega) (by omega) (by simp) ?_; intro v1 w1 hown1 hg1 hnil1 _; have hb1 := below_own hb0 hown0 hg1 (Nat.le_refl _) (by simp); have Hnil1 := Lib.hid hnil1; clear hown0 hb0 hnil1)
      | (go_at_call 44; refine (numbers_calls _ _ _ _).mono ?_; rintro e w' ⟨rfl, rfl⟩))
    have bN := Boxed.new w1 22 (.slice A' ys.length c')
    have hb2 := hb1.alloc hb1.size (.cells #[.slice A' ys.length c'] 22)
    have hown2 := hown1.alloc (.cells #[.slice A' ys.length c'] 22)
    have hsz : (w1.alloc (.cells #[.slice A' ys.length c'] 22)).heap.size = w1.heap.size + 1 := by simp
    have hs1 := hb1.size
    generalize w1.alloc (.cells #[.slice A' ys.length c'] 22) = w2 at bN hb2 hown2 hsz ⊢
    refine (appendSeq_calls w2 w.heap.size _ ys.length _ _ v1 _ hown2 (by omega) (enters_of Try.func51 (by kernel_rfl) rfl)
      (numbers_stops 4 (by omega) w1.heap.size w.heap.size _ ys (by omega) w2 (by omega) (by omega) bN.cell (hb.below hb2)) belowK_t (belowK_b (by omega)) (fun _ _ h _ => h) (by omega)).mono ?_
    rintro e w3 ⟨v, us, rfl, rfl, hr, hnil, hb3⟩
    obtain ⟨A3, c3, rfl, _⟩ := own_form hr
    have Hn := Lib.hid ((own_isNone hr).trans hnil)
    clear hnil
    go_wp2
    go_ret2
    refine ⟨_, _, rfl, by rw [Hzs.out]; simpa using hr, ?_, hb2.trans hb3⟩
    rw [Hp.out]
    refine ⟨fun h => ?_, fun h => absurd h.1 (by simp)⟩
    have h1 := (Hnil1.out.1 (Hn.out.1 h).1).1
    cases h1

set_option maxHeartbeats 400000 in
/-- spec.AppendSeq -/
theorem specAppendSeq_calls (w : World) (va vb : Value) (isNil : Bool) (xs ys : List Int) (ha : SeesI w w.heap.size va xs) (hb : SeesI w w.heap.size vb ys) (hl : (xs.length + ys.length) * 8 ≤ 140737488355328)
    (zs : List Int) (p : Prop) (Hzs : Hid (zs = (if isNil then [] else xs) ++ ys)) (Hp : Hid (p ↔ isNil = true ∧ ys = []))
    (hjoin : ∀ w va vb, SeesI w w.heap.size va xs → SeesI w w.heap.size vb ys → Calls Try.prog 17 #[va, vb] w fun e w' => ∃ v, e = .returned v ∧ w'.ownsRow w.heap.size 3 1 v (xs ++ ys).length ((xs ++ ys).map (Value.int .i64)) ∧ Below w.heap.size w w') :
    Calls Try.prog 31 #[va, .bool isNil, vb] w (AppPost w zs p) := by
  obtain ⟨i0, hi, hz0, hz1, hz2⟩ := info_parts Try.infoInt
  have hown0 := own_empty w w.heap.size 1 3 (Nat.le_refl _)
  have hb0 := (Below.refl w.heap.size w).alloc (Nat.le_refl _) (.cells #[] 3)
  have hbb := hb.below hb0
  have Hj := Lib.hid (hjoin w va vb ha hb)
  clear hjoin
  obtain ⟨A', c', rfl, _⟩ := hb.form
  cases isNil with
  | true =>
    go_enter Try.func31, Try.ntmps31
    go_wp2_with (at_builtin; refine wpList_append_sees _ rfl (.tmp 9) (.tmp 10) 22 rfl w.heap.size 3 i0 (.int .i64 0) 1 8 Try.underlying22 hi hz0 hz1 hz2 rfl (by decide) (.slice (some ⟨w.heap.size, 0, none⟩) 0 0) 0 [] rfl hown0 _ _ _ _ rfl hbb (int_cell _) (by unfold maxLen; omega) (by omega) (by simp) ?_; intro v1 w1 hown1 hg1 _ _; have hb1 := below_own hb0 hown0 hg1 (Nat.le_refl _) (by simp); clear hown0 hb0)
    go_ret2
    exact ⟨_, _, rfl, by rw [Hzs.out]; simpa using hown1, by rw [Hp.out]; simp, hb1⟩
  | false =>
    go_enter Try.func31, Try.ntmps31
    go_wp2_with fail
    refine Hj.out.mono ?_
    rintro e w1 ⟨v, rfl, hr, hb1⟩
    go_wp2_with fail
    go_ret2
    exact ⟨_, _, rfl, by rw [Hzs.out]; exact hr, by rw [Hp.out]; simp, hb1⟩

end Go.Proofs.Ytddlfaaeckijnaa
