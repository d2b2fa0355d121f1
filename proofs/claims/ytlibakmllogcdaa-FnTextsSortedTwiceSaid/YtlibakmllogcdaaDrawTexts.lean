/-
  The contract of spec.DrawTexts. No statement is proved here.
-/
import Derived.Test.YtlibakmllogcdaaDrawLists
import Derived.Test.YtlibakmllogcdaaTexts
import Derived.Test.YtlibakmllogcdaaDrawn
import Derived.Laws.Concat
namespace Go.Proofs.Ytlibakmllogcdaa
open Go.RowKit Go.Shelf Go.Sort

def allT : List (List UInt8) := [[97], [98], [], [97, 98], [97, 0], [255], [122], [195, 169], [66], [97, 98, 99]]
def sizesT : List Int := [4, 3, 6, 2, 1, 0, 9]
theorem sizesT_le : ∀ x ∈ sizesT, 0 ≤ x ∧ x ≤ 9 := by decide
def txAt (j : Nat) : List UInt8 := allT[j]?.getD []
theorem txAt_le (j : Nat) : (txAt j).length ≤ 3 := by
  by_cases h : j < 10
  · have : ∀ i : Fin 10, (txAt i.1).length ≤ 3 := by decide
    exact this ⟨j, h⟩
  · have : allT[j]? = none := List.getElem?_eq_none (by show 10 ≤ j; omega)
    simp [txAt, this]
/-- The texts to draw from lie in block g. -/
def AllT (w : World) (g : Nat) : Prop := ∀ j, j < 10 → w.cell? ⟨g, j, none⟩ = some (encStr (txAt j))
theorem AllT.kept {w w' : World} {g : Nat} {row : Option Nat} (h : AllT w g) (hg : w.grownBy w' row) (hlt : g < w.heap.size) (hr : row ≠ some g) : AllT w' g :=
  fun j hj => (World.cell?_of_block (hg.block g hlt (fun e => hr e.symm))).trans (h j hj)

/-- (*rd).pick, where the texts lie behind the reader. -/
theorem pickT_calls (w : World) (R p n : Nat) (h : RdAt w R p) (hp : p ≤ 1000000000) (hn0 : 1 ≤ n) (hn : n ≤ 10) (hal : AllT w (R + 1)) (hlt : R + 1 < w.heap.size) :
    Calls Try.prog 18 #[.pointer (some ⟨R, 0, none⟩), .int .i64 (n : Int)] w fun e w' => ∃ j : Nat, e = .returned (.int .i64 (j : Int)) ∧ (0 : Int) ≤ (j : Int) ∧ (j : Int) < 10 ∧ j < 10 ∧ (j < n ∧ Gone R (p + 1) w w') ∧ AllT w' (R + 1) := by
  refine (pick_calls w R p n h hp (by omega)).mono ?_
  rintro e w' ⟨r, rfl, hr0, hr1, hg⟩
  obtain ⟨j, rfl⟩ := Int.eq_ofNat_of_zero_le hr0
  exact ⟨j, rfl, by omega, by omega, by omega, ⟨by omega, hg⟩, hal.kept hg.2 hlt (by simp)⟩
theorem AllT.drew {w : World} {g : Nat} (h : AllT w g) : AllT w.drew g := h
theorem RdAt.drew {w : World} {R p : Nat} (h : RdAt w R p) : RdAt w.drew R p := h
theorem addT (a b : Nat) (W : World) : (Op.stringOp .add ⟨(txAt a).toArray⟩ ⟨(txAt b).toArray⟩).run Try.prog W = .ok (.string ⟨(txAt a ++ txAt b).toArray⟩) W :=
  run_string_add_lists W _ _ (by have := txAt_le a; omega) (by have := txAt_le b; omega)

/-- What spec.DrawTexts hands back. -/
def TextsPost (w : World) (e : Ending) (w' : World) : Prop :=
  ∃ (v : Value) (ss : List (List UInt8)), e = .returned v ∧ SeesT w' w'.heap.size v ss ∧ ss.length ≤ 9 ∧ (∀ s ∈ ss, s.length ≤ 6) ∧ Below w.heap.size w w'

set_option maxRecDepth 100000 in
set_option maxHeartbeats 1000000 in
/-- spec.DrawTexts -/
theorem drawTexts_calls (w : World) (bv : Value) (bs : List Int) (hb : SeesB w w.heap.size bv bs) (hl : bs.length ≤ 1048576) (hz : ∀ z ∈ bs, 0 ≤ z ∧ z ≤ 255) :
    Calls Try.prog 9 #[bv] w (TextsPost w) := by
  obtain ⟨i0, hi, hz0, hz1, hz2⟩ := info_parts Try.infoStr
  have hr := rd_new w bv bs hb hl hz
  obtain ⟨A, c, rfl, _⟩ := hb.form
  have hb0 := (Below.refl w.heap.size w).alloc (Nat.le_refl _) (.cells #[.slice A bs.length c, .int .i64 0] 43)
  have hsz0 : (w.alloc (.cells #[.slice A bs.length c, .int .i64 0] 43)).heap.size = w.heap.size + 1 := by simp
  go_enter Try.func9, Try.ntmps9
  go_wp2_with fail
  clear hb
  generalize w.alloc (.cells #[.slice A bs.length c, .int .i64 0] 43) = wa at hr hb0 hsz0 ⊢
  have hall0 : AllT (wa.alloc (.cells (allT.map encStr).toArray 9)) (w.heap.size + 1) := fun j hj => by
    have h := World.ownsRow_lit (base := 0) (e := 9) (size := 1) wa (allT.map encStr).toArray 10 (Nat.zero_le _) (by unfold maxLen; omega) rfl
    have e := own_str (zs := allT) h j hj
    rw [hsz0] at e
    exact e
  have hown0 := own_empty (wa.alloc (.cells (allT.map encStr).toArray 9)) (w.heap.size + 2) 1 9 (by simp; omega)
  have hl := own_lit ((wa.alloc (.cells (allT.map encStr).toArray 9)).alloc (.cells #[] 9)) (w.heap.size + 1) sizesT (by simp; omega) (by decide)
  have hsz1 : (wa.alloc (.cells (allT.map encStr).toArray 9)).heap.size = w.heap.size + 2 := by simp [hsz0]
  have hr1 := hr.alloc (.cells (allT.map encStr).toArray 9)
  have hb1 := hb0.alloc (by omega) (.cells (allT.map encStr).toArray 9)
  change Calls _ _ _ (((wa.alloc (.cells (allT.map encStr).toArray 9)).alloc _).alloc _) _
  generalize wa.alloc (.cells (allT.map encStr).toArray 9) = wb at hall0 hown0 hl hsz1 hr1 hb1 ⊢
  clear hr hb0
  rw [World.size_alloc, hsz1] at hl
  rw [hsz1] at hown0
  refine (one_calls _ w.heap.size 0 _ sizesT ((hr1.alloc _).alloc _) (by omega) (by simpa [sizesT] using hl) (by decide) (by decide)).mono ?_
  rintro e w1 ⟨N, rfl, hN, hg⟩
  obtain ⟨hN0, hN1⟩ := sizesT_le N hN
  obtain ⟨m, rfl⟩ := Int.eq_ofNat_of_zero_le hN0
  have hown1 := hg.own (hown0.alloc _) (by omega)
  have hal1 : AllT w1 (w.heap.size + 1) := ((hall0.kept (World.grownBy_alloc wb _ none) (by omega) (by simp)).kept (World.grownBy_alloc _ _ none) (by simp; omega) (by simp)).kept hg.2 (by simp; omega) (by simp)
  have hbe1 := below_gone ((hb1.alloc (by omega) (.cells #[] 9)).alloc (by simp; omega) (.cells (sizesT.map (Value.int .i64)).toArray 3)) hg.2 (Nat.le_refl _) (by simp; omega)
  have hrd1 := hg.1
  have hsz2 : w.heap.size + 2 ≤ w1.heap.size := by have := hg.2.size; simp at this; omega
  clear hl hown0 hN hg hN0 hall0 hr1 hb1
  go_wp2_with fail
  go_loopw [5, 6] (fun v i wr => ∃ (k p' : Nat) (ss : List (List UInt8)), k ≤ m ∧ i = .int .i64 k ∧ ss.length = m - k ∧ wr.ownsRow (w.heap.size + 2) 9 1 v ss.length (ss.map encStr) ∧ (∀ s ∈ ss, s.length ≤ 6) ∧ p' ≤ 1 + 2 * (m - k) ∧ RdAt wr w.heap.size p' ∧ AllT wr (w.heap.size + 1) ∧ w.heap.size + 2 ≤ wr.heap.size ∧ Below w.heap.size w wr) (fun _ i _ => (intOf i).toNat)
  case atStart => exact ⟨m, 1, [], Nat.le_refl _, rfl, by simp, hown1, by simp, by omega, hrd1, hal1, hsz2, hbe1⟩
  case round =>
    obtain ⟨k, p', ss, hk, rfl, hsl, hrow, hlen, hpp, hrd, hal, hsz, hbe⟩ := hrel
    have Hsl := Lib.hid hsl
    have hsl' : ss.length ≤ 9 := by omega
    have Hlen := Lib.hid hlen
    clear hown1 hrd1 hal1 hsz2 hbe1 hsl hlen
    obtain ⟨A', c', rfl, _⟩ := own_form hrow
    by_cases hk0 : 0 < k
    · go_wp2_with fail
      have hp1 : p' ≤ 1000000000 := by omega
      have hp2 : p' + 1 ≤ 1000000000 := by omega
      have hlt1 : w.heap.size + 1 < wr.drew.heap.size := by show w.heap.size + 1 < wr.heap.size; omega
      have hal0 := hal.drew
      have hrd0 := hrd.drew
      have hrow0 := hrow.drew
      have hbe0 := below_drew hbe
      have hadd := addT
      have hss : ss.length + 1 ≤ maxLen := by unfold maxLen; omega
      have hss' : (ss.length + 1) * 16 ≤ 140737488355328 := by omega
      have hR : w.heap.size < w.heap.size + 2 := by omega
      have hne : (Value.slice A' ss.length c').ownBlock ≠ some (w.heap.size + 1) := fun e => by have := (hrow0.lt _ e).1; omega
      have hlow : ∀ g, (Value.slice A' ss.length c').ownBlock = some g → w.heap.size < g := fun g e => by have := (hrow0.lt _ e).1; omega
      clear hal hrd hrow hbe
      go_region_held3 (fun w' => ∀ j, j < 10 → w'.cell? ⟨w.heap.size + 1, j, none⟩ = some (encStr (txAt j)))
        (first | exact hal0 | exact hal2 | exact hal3 | exact hal4 _ | exact hal5)
        (first
          | (have hal2' := hal2; go_at_call 18; refine (pickT_calls _ w.heap.size (p' + 1) 3 hg2.1 hp2 (by decide) (by decide) hal2 hlt2).mono ?_; rintro e w3 ⟨j2, rfl, hj2a, hj2b, hj2c, ⟨hj2, hg3⟩, hal3⟩; have hlt3 := Nat.lt_of_lt_of_le hlt2 hg3.2.size; have hal4 := fun o : Obj => hal3.kept (World.grownBy_alloc w3 o none) hlt3 (by simp); have hrow3 := hg3.own (hg2.own hrow0 hR) hR; have hba := fun o : Obj => (show w.heap.size + 2 ≤ (w3.alloc o).heap.size by rw [World.size_alloc]; omega))
          | (go_at_call 18; refine (pickT_calls _ w.heap.size p' 10 hrd0 hp1 (by decide) (by decide) hal0 hlt1).mono ?_; rintro e w2 ⟨j1, rfl, hj1a, hj1b, hj1c, ⟨hj1, hg2⟩, hal2⟩; have hlt2 := Nat.lt_of_lt_of_le hlt1 hg2.2.size)
          | (refine step_append_sees _ rfl (.tmp 19) (.tmp 33) 22 (by rfl) (w.heap.size + 2) 9 i0 (.string ⟨#[]⟩) 1 16 Try.underlying22 hi hz0 hz1 hz2 rfl (by decide) _ ss.length _ (by rfl) (hrow3.alloc _) _ _ 1 _ (by rfl) (Sees.own (World.ownsRow_lit (base := 0) (size := 1) w3 #[encStr (txAt j1 ++ txAt j2)] 1 (Nat.zero_le _) (by unfold maxLen; omega) rfl)) (by simp [Value.oneCell']) hss hss' (hba _) ?_; intro v4 w4 hown4 hg4; have hal5 := (hal4 _).kept hg4 (Nat.lt_of_succ_le (hba _)) hne)
          | fail)
      have hrd4 := ((hg3.1.alloc _).kept hg4 hlow : RdAt w4 w.heap.size (p' + 1 + 1))
      have hbe4 : Below w.heap.size w w4 := (((below_gone (below_gone hbe0 hg2.2 (Nat.le_refl _) (by omega)) hg3.2 (Nat.le_refl _) (by omega)).alloc (by omega) _)).grown hg4 (by have := hba (.cells #[] 9); rw [World.size_alloc] at this ⊢; omega) (fun g e => Nat.le_of_lt (hlow g e))
      have hsz4 : w.heap.size + 2 ≤ w4.heap.size := Nat.le_trans (hba _) hg4.size
      have hlen4 : ∀ s ∈ ss ++ [txAt j1 ++ txAt j2], s.length ≤ 6 := fun s hs => by
        rcases List.mem_append.1 hs with hs | hs
        · exact Hlen.out s hs
        · rw [List.mem_singleton.1 hs, List.length_append]; have := txAt_le j1; have := txAt_le j2; omega
      have Hlen4 := Lib.hid hlen4
      have hown5 : w4.ownsRow (w.heap.size + 2) 9 1 v4 (ss ++ [txAt j1 ++ txAt j2]).length ((ss ++ [txAt j1 ++ txAt j2]).map encStr) := by simpa using hown4
      clear hown4 hg4 hlen4
      go_wp2_with fail
      go_roundw
      case rel => exact ⟨k - 1, p' + 1 + 1, ss ++ [txAt j1 ++ txAt j2], by omega, by rw [show ((k - 1 : Nat) : Int) = (k : Int) - 1 by omega], by rw [List.length_append, Hsl.out]; simp; omega, hown5, Hlen4.out, by omega, hrd4, hal5, hsz4, hbe4⟩
      case measure => simp [intOf]; omega
    · obtain rfl : k = 0 := by omega
      go_wp2_with fail
      go_ret
      exact ⟨_, ss, rfl, SeesT.own hrow, hsl', Hlen.out, hbe⟩

end Go.Proofs.Ytlibakmllogcdaa
