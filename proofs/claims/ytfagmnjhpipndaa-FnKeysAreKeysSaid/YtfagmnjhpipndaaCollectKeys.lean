/-
  The contract of impl.CollectKeys. No statement is proved here.
-/
import Derived.Test.YtfagmnjhpipndaaMapKeys
import Derived.Test.YtfagmnjhpipndaaUpward
import Derived.Test.YtfagmnjhpipndaaCollect
namespace Go.Proofs.Ytfagmnjhpipndaa
open Go.RowKit Go.Shelf Go.Maps

/-- What impl.CollectKeys hands back. -/
def CollectKeysPost (w : World) (ps : List (Int × Int)) (e : Ending) (w' : World) : Prop :=
  ∃ v b, e = .returned (.tuple #[v, .bool b]) ∧ w'.ownsRow w.heap.size 3 1 v (keysU ps).length ((keysU ps).map (Value.int .i64)) ∧ (b = true ↔ ps = []) ∧ Below w.heap.size w w'

set_option maxHeartbeats 400000 in
/-- impl.CollectKeys -/
theorem collectKeys_calls (w : World) (sv : Value) (ps : List (Int × Int)) (hI : SeesP w w.heap.size sv ps) (hwf : Fits ps) (hz : (ps.length + 1) * 16 ≤ 140737488355328) :
    Calls Try.prog 15 #[sv] w (CollectKeysPost w ps) := by
  have he := fun (W : World) (a : Option Addr) (n c : Nat) => Lib.run_eql_slice_nil (P := Try.prog) W 25 3 a n c 0 0 Try.underlying25
  have hto := Lib.hid (toMap_calls w w.heap.size sv ps hI (Nat.le_refl _) hwf (by omega))
  obtain ⟨A, c, hsv, _⟩ := hI.form
  subst hsv
  clear hI hwf
  go_enter Try.func15, Try.ntmps15
  go_wp2_with fail
  refine hto.out.mono ?_
  rintro e w1 ⟨b, rfl, hb, hm, hb1⟩
  have hbl := hm.lt
  have hs1 := hb1.size
  have hbx := (Below.refl w1.heap.size w1).alloc (Nat.le_refl _) (.cells #[.map (some b)] 57)
  have hc := Lib.hid (collect_calls (w1.alloc (.cells #[.map (some b)] 57)) ps.length 61 #[.pointer (some ⟨w1.heap.size, 0, none⟩)] (enters_of Try.func61 (by kernel_rfl) rfl)
    (mkeys_stops 4 (by omega) w1.heap.size b ps.length (mkm ps) _ (by simp) (Boxed.new w1 57 (.map (some b))).cell (hm.alloc _))
    keepsMap_t (keepsMap_b (by simp; omega)) (fun W W' hb hk => keepsMap_of hb (by simp; omega) hk) (by omega))
  clear hm
  go_wp2_with fail
  refine (mkeys_calls _ w1).mono ?_
  rintro e w2 ⟨rfl, rfl⟩
  go_wp2_with fail
  refine hc.out.mono ?_
  rintro e w3 ⟨v, xs, rfl, ⟨xs', hS, hxs⟩, hr, hnil, hb3⟩
  have hxl : xs.length ≤ ps.length := by
    have h1 := congrArg List.length hxs
    rw [List.length_map, List.length_map, seq_length hS] at h1
    have := mapU_length ps
    omega
  have hk := Lib.hid (keys_upw hS hxs)
  have hn : v = .slice none 0 0 ↔ ps = [] := by
    rw [hnil, ← seq_nil hS]
    have h1 := congrArg List.length hxs
    rw [List.length_map, List.length_map] at h1
    constructor
    · rintro rfl; exact List.eq_nil_of_length_eq_zero h1.symm
    · rintro rfl; exact List.eq_nil_of_length_eq_zero h1
  have hb13 : Below w.heap.size w w3 := (hb1.trans (hbx.mono hs1)).trans (hb3.mono (by simp; omega))
  have hs3 := hb13.size
  have hup := Lib.hid (upward_calls w3 w3.heap.size v xs (SeesI.own hr) (Nat.le_refl _) (by omega))
  obtain ⟨A', c', rfl, _⟩ := own_form hr
  have Hn := Lib.hid ((own_isNone hr).trans hn)
  clear hS hxs hnil hn hr
  go_wp2_with fail
  refine hup.out.mono ?_
  rintro e w4 ⟨v4, rfl, h4, hb4⟩
  rw [hk.out] at h4
  go_wp2
  go_ret2
  exact ⟨_, _, rfl, own_base h4 hs3, Hn.out, hb13.trans (hb4.mono hs3)⟩

end Go.Proofs.Ytfagmnjhpipndaa
