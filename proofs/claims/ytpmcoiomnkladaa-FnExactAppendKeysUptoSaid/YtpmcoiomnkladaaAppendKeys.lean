/-
  The contract of impl.AppendKeys. No statement is proved here.
-/
import Derived.Test.YtpmcoiomnkladaaMapKeys
import Derived.Test.YtpmcoiomnkladaaUpward
import Derived.Test.YtpmcoiomnkladaaAppendSeq
import Derived.Test.YtpmcoiomnkladaaDrawn
namespace Go.Proofs.Ytpmcoiomnkladaa
open Go.RowKit Go.Shelf Go.Maps

/-- A round that keeps the map where there is one. -/
def CondKeeps (b : Nat) (W W' : World) : Prop := (∃ es c, W.heap[b]? = some (.map es c)) → KeepsMap b W W'
theorem condKeeps_t {b : Nat} {A B C : World} (h : CondKeeps b A B) (k : CondKeeps b B C) : CondKeeps b A C := fun hm => by
  have h1 := h hm
  obtain ⟨es, c, e⟩ := hm
  exact keepsMap_t h1 (k ⟨es, c, h1.map.trans e⟩)
theorem condKeeps_b {b : Nat} {w : World} (hb : b < w.heap.size) (W : World) (l : Nat) (o o' : Obj) (hl : w.heap.size ≤ l) (h : W.heap[l]? = some o) (hc : o.isCells = false) (hw : o.isWalk = false) : CondKeeps b W (W.putObj l o') :=
  fun _ => keepsMap_b hb W l o o' hl h hc hw
theorem condKeeps_o {b : Nat} {W W' : World} (hk : KeepsOthers W W') : CondKeeps b W W' := fun ⟨_, _, e⟩ =>
  ⟨hk.size, (hk.same b _ e rfl).trans e.symm, fun k _ _ _ _ h => hk.same k _ h rfl⟩
theorem seqStops_cond {α : Type} {F : Fence} {n : Nat} {P : Program} {g : Nat} {lb : Array Value} {encs : α → Array Value} {b : Nat} {S Sp : List α → Prop} {N : Nat} {w : World} (h : SeqStopsK F n P g lb encs (KeepsMap b) S Sp N w) (hm : ∃ es c, w.heap[b]? = some (.map es c)) :
    SeqStopsK F n P g lb encs (CondKeeps b) S Sp N w := fun l J Jx W hW hJ hJx hY h0 => by
  obtain ⟨es, c, e⟩ := hm
  have hlt := (Array.getElem?_eq_some_iff.1 e).1
  refine (h l (fun pre W => J pre W ∧ ∃ es c, W.heap[b]? = some (.map es c)) Jx W hW ?_ hJx ?_ ⟨h0, es, c, (hW.block b hlt).trans e⟩).mono ?_
  · rintro s A B row ⟨hs, es', c', e'⟩ hg hr
    refine ⟨hJ s A B row hs hg hr, es', c', (hg.block b (Array.getElem?_eq_some_iff.1 e').1 (fun er => ?_)).trans e'⟩
    have h1 := (hr b er.symm).1
    have h2 := hW.size
    omega
  · rintro pre x W1 ⟨hj, es', c', e'⟩ hl
    refine (hY pre x W1 hj hl).mono (fun e2 w' hr => ?_)
    rcases hr with ⟨he, hj', hk⟩ | hr
    · have hk' := hk ⟨es', c', e'⟩
      exact .inl ⟨he, ⟨hj', es', c', hk'.map.trans e'⟩, hk'⟩
    · exact .inr hr
  · rintro e2 W' ⟨hv, (⟨xs, hS, hj, _⟩ | hx)⟩
    · exact ⟨hv, .inl ⟨xs, hS, hj⟩⟩
    · exact ⟨hv, .inr hx⟩

/-- What impl.AppendKeys hands back. -/
def AppendKeysPost (w : World) (zs : List Int) (ps : List (Int × Int)) (e : Ending) (w' : World) : Prop :=
  ∃ v u, e = .returned (.tuple #[v, u]) ∧ w'.ownsRow w.heap.size 3 1 v zs.length (zs.map (Value.int .i64)) ∧ w'.ownsRow w.heap.size 3 1 u (keysU ps).length ((keysU ps).map (Value.int .i64)) ∧ Below w.heap.size w w'

set_option maxRecDepth 100000 in
set_option maxHeartbeats 1000000 in
/-- impl.AppendKeys -/
theorem appendKeys_calls (w : World) (va sv : Value) (zs : List Int) (ps : List (Int × Int)) (ha : SeesI w w.heap.size va zs) (hI : SeesP w w.heap.size sv ps) (hwf : Fits ps) (hz : (zs.length + ps.length + 1) * 16 ≤ 140737488355328) :
    Calls Try.prog 21 #[va, sv] w (AppendKeysPost w zs ps) := by
  obtain ⟨i0, hi, hz0, hz1, hz2⟩ := info_parts Try.infoInt
  have hown0 := own_empty w w.heap.size 1 3 (Nat.le_refl _)
  have hb0 := (Below.refl w.heap.size w).alloc (Nat.le_refl _) (.cells #[] 3)
  have ha0 := ha.below hb0
  have hto := Lib.hid (fun W (h : Below w.heap.size w W) => toMap_calls W w.heap.size sv ps (hI.below h) h.size hwf (by omega))
  obtain ⟨A, c, rfl, _, _⟩ := ha.form
  obtain ⟨As, cs, rfl, _, _⟩ := hI.form
  clear hI hwf ha
  go_enter Try.func21, Try.ntmps21
  go_wp2_with (at_builtin; refine wpList_append_sees _ rfl (.tmp 8) (.tmp 9) 23 rfl w.heap.size 3 i0 (.int .i64 0) 1 8 Try.underlying23 hi hz0 hz1 hz2 rfl (by decide) (.slice (some ⟨w.heap.size, 0, none⟩) 0 0) 0 [] rfl hown0 _ _ _ _ rfl ha0 (int_cell _) (by unfold maxLen; omega) (by omega) (by simp) ?_; intro v1 w1 hown1 hg1 hnil1 _; have hb1 := below_own hb0 hown0 hg1 (Nat.le_refl _) (by simp); clear hown0 hb0)
  rw [Nat.zero_add, List.nil_append] at hown1
  have Hnil1 := Lib.hid (show v1 ≠ .slice none 0 0 from fun e => by have := (hnil1.1 e).1; cases this)
  clear hnil1
  refine (hto.out w1 hb1).mono ?_
  rintro e w2 ⟨b, rfl, hbb, hm, hb2⟩
  have hs1 := hb1.size
  have hs2 := hb2.size
  have hbl := hm.lt
  have hml := mapU_length ps
  have hown2 := (own_below hown1 hb2).alloc (.cells #[.map (some b)] 49)
  have hbx := (Below.refl w2.heap.size w2).alloc (Nat.le_refl _) (.cells #[.map (some b)] 49)
  have hB2 := (hb1.trans (hb2.mono hs1)).trans (hbx.mono (by omega))
  have bM := Boxed.new w2 49 (.map (some b))
  have hm2 := hm.alloc (.cells #[.map (some b)] 49)
  have hsz : (w2.alloc (.cells #[.map (some b)] 49)).heap.size = w2.heap.size + 1 := by simp
  obtain ⟨es0, ck0, hmap⟩ := hm2.isMap
  clear hm hown1
  go_wp2_with fail
  refine (mkeys_calls _ w2).mono ?_
  rintro e w3 ⟨rfl, rfl⟩
  generalize w2.alloc (.cells #[.map (some b)] 49) = W at hown2 hbx hB2 bM hm2 hsz hmap ⊢
  have hc := Lib.hid (appendSeq_calls W w.heap.size zs.length ps.length 43 #[.pointer (some ⟨w2.heap.size, 0, none⟩)] v1 _ hown2 (by omega) (enters_of Try.func43 (by kernel_rfl) rfl)
    (seqStops_cond (mkeys_stops 4 (by omega) w2.heap.size b ps.length (mkm ps) W (by omega) bM.cell hm2) ⟨es0, ck0, hmap⟩)
    condKeeps_t (condKeeps_b (by omega)) (fun _ _ _ hk => condKeeps_o hk) (by omega))
  clear hm2
  go_wp2_with fail
  refine hc.out.mono ?_
  rintro e w4 ⟨v, xs, rfl, ⟨xs', hS, hxs⟩, hr, hnil, hb4⟩
  have hxl : xs.length ≤ ps.length := by
    have h1 := congrArg List.length hxs
    rw [List.length_map, List.length_map, seq_length hS] at h1
    omega
  have hk := Lib.hid (keys_upw hS hxs)
  have hB4 := hB2.trans hb4
  have hs4 := hB4.size
  have hne : v ≠ .slice none 0 0 := fun e => Hnil1.out (hnil.1 e).1
  clear hS hxs hc hown2 hmap hbx hnil
  rw [← List.map_append] at hr
  obtain ⟨g, c4, rfl⟩ : ∃ g c4, v = .slice (some ⟨g, 0, none⟩) (zs.length + xs.length) c4 := by
    rcases hr.2 with ⟨e1, _⟩ | ⟨g, cap, cur, e1, _⟩
    · exact absurd e1 hne
    · exact ⟨g, cap, e1⟩
  clear hne
  obtain ⟨_, c5, e5, hc4⟩ := own_form hr
  cases e5
  generalize hm : zs.length = m at hr hc4 ⊢
  have m1 : (0 : Int) ≤ (m : Int) := by omega
  have m2 : (m : Int) ≤ (m : Int) + (xs.length : Int) := by omega
  have m3 : (m : Int) ≤ (c4 : Int) := by omega
  have hs1 : ∀ W', Below w4.heap.size w4 W' → Sees W' w4.heap.size 1 (.slice (some ⟨g, 0, none⟩) m c4) m (zs.map (Value.int .i64)) := fun W' h => by
    have := ((Sees.own hr).cut (k := m) (by omega)).below h
    rwa [Nat.mul_one, ← List.map_take, List.take_left' hm] at this
  obtain ⟨A2, hA2, hs2⟩ : ∃ A2, (if c4 = m then some (⟨g, 0, none⟩ : Addr) else some ⟨g, m, none⟩) = A2 ∧ ∀ W', Below w4.heap.size w4 W' → SeesI W' w4.heap.size (.slice A2 xs.length (c4 - m)) xs :=
    ⟨_, rfl, fun W' h => by
      have := ((Sees.own hr).drop (k := m) (by omega) (if c4 = m then some (⟨g, 0, none⟩ : Addr) else some ⟨g, m, none⟩) (fun h => by rw [if_neg (by omega)]; simp) (c4 - m) (by omega)).below h
      rwa [Nat.mul_one, ← List.map_drop, List.drop_left' hm, show m + xs.length - m = xs.length by omega] at this⟩
  have hup := Lib.hid (fun W' (h : Below w4.heap.size w4 W') => upward_calls W' w4.heap.size _ xs (hs2 W' h) h.size (by omega))
  have Hm := Lib.hid hm
  have hzm : m ≤ zs.length := Nat.le_of_eq hm.symm
  have hzm2 : zs.length ≤ m := Nat.le_of_eq hm
  clear hm
  have kd := below_drew (Below.refl w4.heap.size w4)
  have kA := kd.alloc kd.size (.cells #[] 3)
  have kA' := below_drew ((Below.refl w4.heap.size w4).alloc (Nat.le_refl _) (.cells #[] 3))
  have oA := (own_empty w4 w4.heap.size 1 3 (Nat.le_refl _)).drew
  go_wp2_with fail
  go_region_held3 (fun w' => Below w4.heap.size w4 w') (first | exact kd | exact kA' | exact kP | exact kU | exact kUA)
    (first
      | (refine step_append_sees _ rfl (.tmp 20) (.tmp 23) 23 (by rfl) w4.heap.size 3 i0 (.int .i64 0) 1 8 Try.underlying23 hi hz0 hz1 hz2 rfl (by decide) _ 0 [] (by rfl) oUA w4.heap.size _ m _ (by rfl) (hs1 _ kUA) (int_cell _) (by unfold maxLen; omega) (by omega) kUA.size ?_; intro va wa howna hga; have kP := kUA.grown hga kUA.size (fun j e => (oUA.lt j e).1))
      | (refine step_append_sees _ rfl (.tmp 20) (.tmp 23) 23 (by rfl) w4.heap.size 3 i0 (.int .i64 0) 1 8 Try.underlying23 hi hz0 hz1 hz2 rfl (by decide) _ 0 [] (by rfl) oU w4.heap.size _ m _ (by rfl) (hs1 _ kU) (int_cell _) (by unfold maxLen; omega) (by omega) kU.size ?_; intro va wa howna hga; have kP := kU.grown hga kU.size (fun j e => (oU.lt j e).1))
      | (refine step_append_sees _ rfl (.tmp 20) (.tmp 23) 23 (by rfl) w4.heap.size 3 i0 (.int .i64 0) 1 8 Try.underlying23 hi hz0 hz1 hz2 rfl (by decide) _ 0 [] (by rfl) oA w4.heap.size _ m _ (by rfl) (hs1 _ kA') (int_cell _) (by unfold maxLen; omega) (by omega) kA'.size ?_; intro va wa howna hga; have kP := kA'.grown hga kA'.size (fun j e => (oA.lt j e).1))
      | (go_at_call 31; refine (hup.out _ ?_).mono ?_; (first | exact kP | exact kA' | exact kd); rintro e wu ⟨vu, rfl, hu, hbu⟩; have kU : Below w4.heap.size w4 wu := (by first | exact kP.trans (hbu.mono kP.size) | exact kA'.trans (hbu.mono kA'.size) | exact kd.trans (hbu.mono kd.size)); (try have oU := own_below oA hbu); have kUA := kU.alloc kU.size (.cells #[] 3); have oUA := own_empty wu w4.heap.size 1 3 kU.size)
      | fail)
  rw [hk.out] at hu
  rw [Nat.zero_add, List.nil_append] at howna
  have hr1 := own_base (own_below howna hbu) hs4
  rw [← Hm.out] at hr1
  have hr2 := own_base hu (Nat.le_trans hs4 kP.size)
  have hB := hB4.trans (kU.mono hs4)
  clear howna hu hr hs1 hs2 oA oUA hup
  go_wp2_with fail
  go_ret2
  exact ⟨_, _, rfl, hr1, hr2, hB⟩

end Go.Proofs.Ytpmcoiomnkladaa
