/-
  The walk of the law FnExactWalkMap: it returns true and writes nothing that was there.
-/
import Derived.Test.YtpmcoiomnkladaaWalkMap
import Derived.Test.YtpmcoiomnkladaaSpecHas
import Derived.Test.YtpmcoiomnkladaaCut
import Derived.Test.YtpmcoiomnkladaaWalkedLaw
import Derived.Test.YtpmcoiomnkladaaLies
namespace Go.Proofs.Ytpmcoiomnkladaa
open Go.RowKit Go.Shelf Go.Maps

theorem walked_pairs {xs ps : List (Int × Int)} (h : PartOf xs (mkm ps)) : (∀ u ∈ putAll xs, mkm ps u.1 = some u.2) ∧ (putAll xs).Pairwise (fun a b => a.1 < b.1) :=
  ⟨fun u hu => h.2 u ((putAll_mem xs u).1 hu), putAll_rising h.1⟩

set_option maxRecDepth 100000 in
set_option maxHeartbeats 2000000 in
theorem fnExactWalkMap_walk (w : World) (v0 : Value) (z0 : List (Int × Int)) (a1 : Int) (s0 : SeesP w w.heap.size v0 z0) (b0 : z0.length * 16 ≤ 140737488351232) (f0 : Fits z0) (_ : (Lit.int .i64 a1).wf = true) :
    Calls Try.prog 7 #[v0, .int .i64 a1] w fun e w' => e = .returned (.bool true) ∧ Below w.heap.size w w' := by
  have hc := Lib.hid (walkMap_calls w v0 z0 a1 s0 f0 (by omega))
  obtain ⟨A0, c0, e0, _, _⟩ := s0.form
  subst e0
  clear f0
  go_enter Try.func7, Try.ntmps7
  go_wp2_with fail
  refine hc.out.mono ?_
  rintro e w1 ⟨x, xs, rfl, hP, hxl, hx, hb1⟩
  have hs1 := hb1.size
  obtain ⟨hmem, hrise⟩ := walked_pairs hP
  have hul : (putAll xs).length = min (mapU z0).length a1.toNat := by rw [putAll_length, hxl]
  have hml := mapU_length z0
  have s1 := s0.below hb1
  clear hP hxl hc s0
  generalize putAll xs = us at hx hmem hrise hul
  have sx := SeesP.own hx
  obtain ⟨Ax, cx, ex, _, hxs⟩ := sx.form
  subst ex
  have hul2 : us.length ≤ (mapU z0).length := by rw [hul]; exact Nat.min_le_left _ _
  have Hul := Lib.hid hul
  have Hmem := Lib.hid hmem
  have Hrise := Lib.hid hrise
  clear hul hmem hrise hx
  go_wp2_with fail
  go_loopw [6] (fun i wr => ∃ k : Nat, k ≤ us.length ∧ i = .int .i64 k ∧ Below w1.heap.size w1 wr) (fun i _ => us.length - (intOf i).toNat)
  case atStart => exact ⟨0, Nat.zero_le _, rfl, Below.refl _ _⟩
  case round =>
    obtain ⟨k, hk, rfl, hbr⟩ := hrel
    have hsr := hbr.size
    by_cases hlt : k < us.length
    · obtain ⟨b1, o1, rfl, hbl, hx1⟩ := hxs (by omega)
      obtain ⟨e1, e2⟩ := hx1 k hlt
      have hm := Hmem.out _ (List.getElem_mem hlt)
      have hin := Lib.hid (fun s : Lies w1.heap.size w1 => specHas_yes s.w w.heap.size _ z0 us[k].1 us[k].2 (s1.below (s.h.mono hs1)) (Nat.le_trans hs1 s.h.size) (by omega) hm)
      have hHas : ∀ s : Lies w1.heap.size w1, Calls Try.prog 23 #[.slice A0 z0.length c0, .agg #[.int .i64 us[k].1, .int .i64 us[k].2]] s.w fun e w' => e = .returned (.bool true) ∧ ∃ s' : Lies w1.heap.size w1, w' = s'.w := fun s =>
        (hin.out s).mono fun _ _ ⟨he, hw⟩ => ⟨he, ⟨_, s.h.alloc s.h.size _⟩, hw.symm⟩
      have HHas := Lib.hid hHas
      clear hin hHas hm
      rcases Nat.eq_zero_or_pos k with h0 | h0
      · subst h0
        clear hx1 hxs
        generalize us[0] = u at e1 e2 HHas
        obtain ⟨u1, u2⟩ := u
        dsimp only at e1 e2 HHas
        rw [Nat.zero_mul, Nat.add_zero] at e1 e2
        have d1 : ∀ s : Lies w1.heap.size w1, s.w.cell? ⟨b1, o1, none⟩ = some (.int .i64 u1) := fun s => (s.h.cell (p := ⟨b1, o1, none⟩) hbl).trans e1
        have d2 : ∀ s : Lies w1.heap.size w1, s.w.cell? ⟨b1, o1 + 1, none⟩ = some (.int .i64 u2) := fun s => (s.h.cell (p := ⟨b1, o1 + 1, none⟩) hbl).trans e2
        clear e1 e2
        go_wp2_with fail
        refine wp_region_lies (by kernel_rfl) (by kernel_rfl) hbr ?_
        repeat (go_big_quiet_step ((go_at_call 23; exact HHas.out _)))
        refine wpQuiet_nil ?_
        rintro w' ⟨⟨w3, hb3⟩, rfl⟩
        go_wp2
        go_roundw
        case rel => exact ⟨1, by omega, by go_num, hb3⟩
        case measure => simp [intOf]; omega
      · have hri := List.pairwise_iff_getElem.1 Hrise.out (k - 1) k (by omega) hlt (by omega)
        obtain ⟨e3, _⟩ := hx1 (k - 1) (by omega)
        clear hx1 hxs
        generalize us[k] = u at e1 e2 HHas hri
        generalize us[k - 1] = v at e3 hri
        obtain ⟨u1, u2⟩ := u
        obtain ⟨p1, p2⟩ := v
        dsimp only at e1 e2 e3 HHas hri
        have d1 : ∀ s : Lies w1.heap.size w1, s.w.cell? ⟨b1, o1 + k * 2, none⟩ = some (.int .i64 u1) := fun s => (s.h.cell (p := ⟨b1, o1 + k * 2, none⟩) hbl).trans e1
        have d2 : ∀ s : Lies w1.heap.size w1, s.w.cell? ⟨b1, o1 + k * 2 + 1, none⟩ = some (.int .i64 u2) := fun s => (s.h.cell (p := ⟨b1, o1 + k * 2 + 1, none⟩) hbl).trans e2
        have d3 : ∀ s : Lies w1.heap.size w1, s.w.cell? ⟨b1, o1 + (k - 1) * 2, none⟩ = some (.int .i64 p1) := fun s => (s.h.cell (p := ⟨b1, o1 + (k - 1) * 2, none⟩) hbl).trans e3
        clear e1 e2 e3
        have h0' : (0 : Int) < (k : Int) := by omega
        have hri' : ¬ u1 ≤ p1 := by omega
        go_wp2_with fail
        refine wp_region_lies (by kernel_rfl) (by kernel_rfl) hbr ?_
        repeat (go_big_quiet_step ((go_at_call 23; exact HHas.out _)))
        refine wpQuiet_nil ?_
        rintro w' ⟨⟨w3, hb3⟩, rfl⟩
        go_wp2
        go_roundw
        case rel => exact ⟨k + 1, by omega, by go_num, hb3⟩
        case measure => simp [intOf]; omega
    · obtain rfl : k = us.length := by omega
      clear hxs
      go_wp2_with fail
      refine (specMap_calls wr w.heap.size _ z0 (s1.below (hbr.mono hs1)) (by omega) (by omega)).mono ?_
      rintro e w3 ⟨y, rfl, hy, hb3⟩
      obtain ⟨Ay, cy, ey, _⟩ := own_form hy
      subst ey
      clear hy
      go_wp2_with fail
      refine (cut_calls _ _ _ (by omega)).mono ?_
      rintro e w4 ⟨rfl, rfl⟩
      go_wp2
      go_ret
      exact ⟨by simp [Hul.out], (hb1.trans (hbr.mono hs1)).trans (hb3.mono (by omega))⟩

end Go.Proofs.Ytpmcoiomnkladaa
