/-
  The contract of impl.toPairs: the pairs of a map by ascending keys. No statement is proved here.
-/
import Derived.Test.YtfagmnjhpipndaaPut
namespace Go.Proofs.Ytfagmnjhpipndaa
open Go.RowKit Go.Shelf Go.Maps

theorem own_walk {w w' : World} {base sz n r : Nat} {e : TypeId} {v : Value} {xs : List Value} (h : w.ownsRow base e sz v n xs) (hg : w.grownBy w' (some r)) (hr : ∃ o : Obj, w.heap[r]? = some o ∧ o.isWalk = true) : w'.ownsRow base e sz v n xs := by
  refine h.kept hg ?_
  rcases h.2 with ⟨rfl, _⟩ | ⟨g, cap, cur, rfl, _, hgb, _⟩
  · exact .inl rfl
  · refine .inr fun e' => ?_
    obtain ⟨o, ho, hw⟩ := hr
    obtain rfl : g = r := by simpa [Value.ownBlock] using e'
    rw [hgb] at ho
    cases ho
    cases hw
theorem ranges_below {H : Type} {P : Program} {k : TypeId} {R : Value → Option (DataW H × List MemPlace)} {w w' : World} {b r n B : Nat} {D : DataW H} {left : Lit → Bool} {cnt : Nat}
    (h : w.ranges P k R b r n D left cnt) (hk : Below B w w') (hb : b < B) (hr : r < B) : w'.ranges P k R b r n D left cnt := by
  obtain ⟨es, clock, since, seen, c0, hb', F, hs, hD, hr', rest⟩ := h
  exact ⟨es, clock, since, seen, c0, (hk.block b hb).trans hb', F, hs, hD, (hk.block r hr).trans hr', rest⟩

theorem put_step {ps xs : List (Int × Int)} {x c : Int} (h : ps.Pairwise (fun a b => a.1 < b.1)) (hm : ∀ p, p ∈ ps ↔ p ∈ xs) (hx : ∀ p ∈ xs, p.1 ≠ x) : (putP (x, c) ps).Pairwise (fun a b => a.1 < b.1) ∧ ∀ p, p ∈ putP (x, c) ps ↔ p ∈ xs ++ [(x, c)] := by
  refine ⟨putP_rising (x, c) h (fun q hq => hx q ((hm q).1 hq)), fun p => ?_⟩
  rw [putP_mem, List.mem_append, hm p, List.mem_singleton]
  exact Or.comm
/-- The new key has not come yet. -/
theorem Came.fresh {f : FMap} {left : Lit → Bool} {xs : List (Int × Int)} (h : Came f left xs) {x : Int} (hl : left (.int .i64 x) = true) : ∀ p ∈ xs, p.1 ≠ x := by
  rintro ⟨k, v⟩ hp rfl
  have := ((h.2 k v).1 hp).2
  rw [hl] at this
  cases this

set_option maxHeartbeats 1000000 in
/-- impl.toPairs -/
theorem toPairs_calls (w : World) (b nn : Nat) (f : FMap) (hF : MapF w b nn f) (hz : (nn + 1) * 16 ≤ 140737488355328) :
    Calls Try.prog 41 #[.map (some b)] w fun e w' => ∃ v ps, e = .returned v ∧ Graph ps f ∧ ps.length ≤ nn ∧ w'.ownsRow w.heap.size 32 2 v ps.length (pcells ps) ∧ Below w.heap.size w w' := by
  obtain ⟨D, hown, hv⟩ := hF
  have hbl := hown.lt
  have hle := hown.size_le
  have hown0 := own_empty w w.heap.size 2 32 (Nat.le_refl _)
  have hb0 := (Below.refl w.heap.size w).alloc (Nat.le_refl _) (.cells #[] 32)
  go_enter Try.func41, Try.ntmps41
  go_wp2_with (at_range; refine wpList_range_own _ rfl _ 57 rfl 3 3 kInt Try.underlying57 _ b nn _ rfl (hown.alloc _) ?_; intro w0 hrg0 hg0 hs0)
  go_frame
  have hrow0 := hown0.kept hg0 (.inr (by simp [Value.ownBlock]))
  have hbw0 := hb0.grown hg0 (by simp) (by simp)
  simp only [World.size_alloc] at hrg0 ⊢
  clear hg0 hown0 hb0
  go_loopw [3] (fun v wr => ∃ (left : Lit → Bool) (cnt : Nat) (xs ps : List (Int × Int)), wr.ranges Try.prog 3 (plainElem Try.prog 3) b (w.heap.size + 1) nn D left cnt ∧ xs.length + cnt ≤ Maps.size D ∧ Came f left xs ∧ ps.Pairwise (fun a b => a.1 < b.1) ∧ (∀ p, p ∈ ps ↔ p ∈ xs) ∧ ps.length = xs.length ∧ wr.ownsRow w.heap.size 32 2 v ps.length (pcells ps) ∧ Below w.heap.size w wr)
    (fun _ wr => wr.rangeLeft b (w.heap.size + 1))
  case atStart => exact ⟨_, _, [], [], hrg0, by simp, Came.start hv, List.Pairwise.nil, fun _ => Iff.rfl, rfl, hrow0, hbw0⟩
  case round =>
    obtain ⟨left, cnt, xs, ps, hrg, hcs, hC, hri, hmm, hpl, hrow, hb⟩ := hrel
    clear hrg0 hrow0 hbw0
    have Hmm := Lib.hid hmm
    have hpl' : ps.length ≤ xs.length := by omega
    have Hpl := Lib.hid hpl
    clear hmm hpl
    obtain ⟨A', c', rfl, _⟩ := own_form hrow
    have hrl := hrg.lt
    go_wp2_with (at_next; refine wpList_next_ranges_ii _ rfl _ rfl 3 3 .i64 .i64 kInt Try.underlying3 Try.underlying3 b (w.heap.size + 1) nn _ _ _ rfl hrg ?_ ?_)
    · intro hc0 hl0
      go_wp2_with fail
      go_ret
      exact ⟨_, ps, rfl, ⟨hri, fun k v => (Hmm.out (k, v)).trans ((hC.all hl0).2 k v)⟩, by omega, hrow, hb⟩
    · intro x c w2 cnt2 hwx hwc hlk hat hrg2 hlt hg2 hs2 hen
      obtain ⟨hfx, hC2⟩ := hC.step hv hwx hlk hat
      have hst := put_step (c := c) hri Hmm.out (hC.fresh hlk)
      have Hst := Lib.hid hst
      have HC2 := Lib.hid hC2
      have hrow2 := own_walk hrow hg2 hrg.iter_walk
      have hb2 := hb.grown hg2 hb.size (fun j e => by cases e; omega)
      have hbs2 := hb2.size
      clear hC2 hst hfx
      go_wp2_with fail
      refine (put_calls w2 w2.heap.size _ ps x c (SeesP.own hrow2) (Nat.le_refl _) (by omega)).mono ?_
      rintro e w3 ⟨v3, rfl, hrow3, hb3⟩
      have hrg3 := ranges_below hrg2 hb3 (by have := hrg2.owns.lt; omega) (by have := hrg2.lt; omega)
      have hl3 : (putP (x, c) ps).length = (xs ++ [(x, c)]).length := by rw [putP_length, Hpl.out]; simp
      have Hl3 := Lib.hid hl3
      clear hl3
      go_wp2_with fail
      go_roundw
      case rel => exact ⟨_, cnt2, xs ++ [(x, c)], putP (x, c) ps, hrg3, by simp; omega, HC2.out, Hst.out.1, Hst.out.2, Hl3.out, own_base hrow3 (by omega), hb2.trans (hb3.mono (by omega))⟩
      case measure => rw [hrg3.left_eq, hrg.left_eq]; exact hlt

end Go.Proofs.Ytfagmnjhpipndaa
