/-
  Maps of ints to ints in memory: what they hold as a function; the contract of impl.toMap. No statement is proved here.
-/
import Derived.Test.YtfagmnjhpipndaaMapLaw
import Derived.Maps.OwnIn
import Derived.Maps.OwnOps
import Derived.Maps.RangeWalk
import Derived.Sort.MapsRangeIn
namespace Go.Proofs.Ytfagmnjhpipndaa
open Go.RowKit Go.Shelf Go.Maps

theorem kInt : Keyed Try.prog 3 := int_keyed Try.underlying3
theorem key_lit {k : Int} (hk : (Lit.int .i64 k).wf = true) : WideAt.IsKeyLit (.int .i64 k) := kInt.key (keyOf_int_mk Try.underlying3 hk)

/-- The datum D holds just what f does. -/
structure MapView (D : DataW Unit) (f : FMap) : Prop where
  wf : ∀ k v, f k = some v → (Lit.int .i64 k).wf = true ∧ (Lit.int .i64 v).wf = true
  hit : ∀ k v, f k = some v → has D (.int .i64 k) = true ∧ ∀ z, D.atKey (.int .i64 k) z = .lit (.int .i64 v)
  miss : ∀ k, f k = none → has D (.int .i64 k) = false

theorem lit_ne {a b : Int} (h : a ≠ b) : Lit.int .i64 a ≠ Lit.int .i64 b := fun e => h (by injection e)

theorem MapView.put {D : DataW Unit} {f : FMap} (h : MapView D f) (hD : IsMap D) {k v : Int} (hk : (Lit.int .i64 k).wf = true) (hv : (Lit.int .i64 v).wf = true) : MapView (D.put (.int .i64 k) (.lit (.int .i64 v))) (upd f k v) := by
  refine ⟨fun x y e => ?_, fun x y e => ?_, fun x e => ?_⟩
  · by_cases hx : x = k
    · subst hx; rw [upd_same] at e; injection e with e; subst e; exact ⟨hk, hv⟩
    · rw [upd_other _ _ hx] at e; exact h.wf x y e
  · by_cases hx : x = k
    · subst hx; rw [upd_same] at e; injection e with e; subst e
      exact ⟨has_put_same hD (key_lit hk) _, fun z => atKey_put_same hD (key_lit hk) _ z⟩
    · rw [upd_other _ _ hx] at e
      obtain ⟨h1, h2⟩ := h.hit x y e
      exact ⟨(has_put_other (lit_ne hx) _).trans h1, fun z => (atKey_put_other (lit_ne hx) _ z).trans (h2 z)⟩
  · by_cases hx : x = k
    · subst hx; rw [upd_same] at e; cases e
    · rw [upd_other _ _ hx] at e
      exact (has_put_other (lit_ne hx) _).trans (h.miss x e)
theorem mapView_none : MapView (.map []) noMap := ⟨(fun _ _ e => by cases e), (fun _ _ e => by cases e), (fun _ _ => rfl)⟩

/-- Block b of w is a map of at most n entries that holds f. -/
def MapF (w : World) (b n : Nat) (f : FMap) : Prop := ∃ D : DataW Unit, w.ownsMap Try.prog 3 (plainElem Try.prog 3) b n D ∧ MapView D f

theorem MapF.lt {w : World} {b n : Nat} {f : FMap} (h : MapF w b n f) : b < w.heap.size := by obtain ⟨D, h, _⟩ := h; exact h.lt
theorem MapF.kept {w w' : World} {b n : Nat} {f : FMap} {row : Option Nat} (h : MapF w b n f) (hg : w.grownBy w' row) (hne : some b ≠ row) : MapF w' b n f := by
  obtain ⟨D, h, hv⟩ := h; exact ⟨D, h.kept hg hne, hv⟩
theorem MapF.alloc {w : World} {b n : Nat} {f : FMap} (h : MapF w b n f) (o : Obj) : MapF (w.alloc o) b n f := by obtain ⟨D, h, hv⟩ := h; exact ⟨D, h.alloc o, hv⟩
theorem MapF.below {w w' : World} {b n B : Nat} {f : FMap} (h : MapF w b n f) (hb : Below B w w') (hB : b < B) : MapF w' b n f := by
  obtain ⟨D, ⟨es, clock, hb', rest⟩, hv⟩ := h
  exact ⟨D, ⟨es, clock, (hb.block b hB).trans hb', rest⟩, hv⟩
theorem MapF.more {w : World} {b n n' : Nat} {f : FMap} (h : MapF w b n f) (hn : n ≤ n') : MapF w b n' f := by obtain ⟨D, h, hv⟩ := h; exact ⟨D, h.mono hn, hv⟩
theorem MapF.isMap {w : World} {b n : Nat} {f : FMap} (h : MapF w b n f) : ∃ es c, w.heap[b]? = some (.map es c) := by obtain ⟨D, ⟨es, c, hb, _⟩, _⟩ := h; exact ⟨es, c, hb⟩
theorem mapF_new (w : World) : MapF (w.alloc (.map #[] 0)) w.heap.size 0 noMap := ⟨_, World.ownsMap_made w _ _ _, mapView_none⟩

/-- All pairs fit. -/
def Fits (ps : List (Int × Int)) : Prop := ∀ p ∈ ps, (Lit.int .i64 p.1).wf = true ∧ (Lit.int .i64 p.2).wf = true

set_option maxHeartbeats 1000000 in
/-- impl.toMap -/
theorem toMap_calls (w : World) (B : Nat) (sv : Value) (ps : List (Int × Int)) (hI : SeesP w B sv ps) (hB : B ≤ w.heap.size) (hw : Fits ps) (hz : ps.length ≤ 100000000000000000) :
    Calls Try.prog 38 #[sv] w fun e w' => ∃ b, e = .returned (.map (some b)) ∧ w.heap.size ≤ b ∧ MapF w' b ps.length (mkm ps) ∧ Below w.heap.size w w' := by
  have hmm := @run_makeMap Try.prog
  obtain ⟨A, c, rfl, _, hs⟩ := (hI.more hB).form
  have h0 := mapF_new w
  have hb0 := (Below.refl w.heap.size w).alloc (Nat.le_refl _) (.map #[] 0)
  clear hI
  go_enter Try.func38, Try.ntmps38
  go_wp2
  go_loopw [9] (fun i wr => ∃ k : Nat, k ≤ ps.length ∧ i = .int .i64 k ∧ MapF wr w.heap.size k (mkm (ps.take k)) ∧ Below w.heap.size w wr) (fun i _ => ps.length - (intOf i).toNat)
  case atStart => exact ⟨0, Nat.zero_le _, rfl, h0, hb0⟩
  case round =>
    obtain ⟨k, hk, rfl, hm, hb⟩ := hrel
    clear h0 hb0
    have hms := hm.lt
    by_cases hlt : k < ps.length
    · obtain ⟨b, off, rfl, hbl, hx⟩ := hs (by omega)
      obtain ⟨c1, c2⟩ := hx k hlt
      have d1 := (hb.cell (p := ⟨b, off + k * 2, none⟩) hbl).trans c1
      have d2 := (hb.cell (p := ⟨b, off + k * 2 + 1, none⟩) hbl).trans c2
      obtain ⟨w1, w2⟩ := hw ps[k] (List.getElem_mem hlt)
      have hsn := Lib.hid (mkm_snoc (ps.take k) ps[k])
      have htk := Lib.hid (take_snoc ps hlt)
      clear hx c1 c2 hs
      generalize ps[k] = p at d1 d2 w1 w2 hsn htk
      obtain ⟨x, y⟩ := p
      dsimp only at d1 d2 w1 w2
      obtain ⟨D, hown, hv⟩ := hm
      have hv' := Lib.hid (hv.put hown.isMap w1 w2)
      clear hv
      go_wp2_with (at_mapUpdate; refine wpList_mapUpdate_own _ rfl _ _ _ 57 rfl 3 3 kInt Try.underlying57 _ w.heap.size k _ rfl (hown.alloc _) (by unfold maxLen; omega) _ _ _ rfl rfl (keyOf_int_mk Try.underlying3 w1) _ [] (plainElem_int Try.underlying3 w2) ?_; intro w3 hown1 hgrow1)
      have hb3 := (hb.alloc hb.size (.cells #[.int .i64 x, .int .i64 y] 32)).grown hgrow1 (by simp; omega) (fun j e => by cases e; exact Nat.le_refl _)
      go_roundw
      case rel => exact ⟨k + 1, by omega, by go_num, ⟨_, hown1, by rw [htk.out, hsn.out]; exact hv'.out⟩, hb3⟩
      case measure => simp [intOf]; omega
    · obtain rfl : k = ps.length := by omega
      clear hs
      go_wp2
      go_ret
      exact ⟨_, rfl, Nat.le_refl _, by rw [List.take_of_length_le (Nat.le_refl _)] at hm; exact hm, hb⟩

end Go.Proofs.Ytfagmnjhpipndaa
