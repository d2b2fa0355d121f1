/-
  The contract of spec.Bits: the bits of floating-point numbers ascending, with one for all NaNs. No statement is proved here.
-/
import Derived.Test.YtlibakmllogcdaaUpLaw
import Derived.Test.YtlibakmllogcdaaFloatKit
import Derived.Test.YtlibakmllogcdaaFloats
import Derived.Laws.Externs
import Derived.Deep.Cut
import Derived.Deep.CutBlock
import Derived.Test.YtlibakmllogcdaaDrawn
namespace Go.Proofs.Ytlibakmllogcdaa
open Go.RowKit Go.Shelf

theorem ins_doneU {w : World} {base : Nat} {v : Value} {out : List Int} {z : Int} {m : Nat} (h : insU z out = out.take m ++ [z] ++ out.drop m)
    (hown : w.ownsRow base 50 1 v (0 + m + 1 + (out.length - m)) ([] ++ (out.map (Value.int .u64)).take (m * 1) ++ #[Value.int .u64 z].toList ++ (out.map (Value.int .u64)).drop (m * 1))) :
    w.ownsRow base 50 1 v (insU z out).length ((insU z out).map (Value.int .u64)) := by
  have hl := hown.1
  have e : [] ++ (out.map (Value.int .u64)).take (m * 1) ++ #[Value.int .u64 z].toList ++ (out.map (Value.int .u64)).drop (m * 1) = (insU z out).map (Value.int .u64) := by
    rw [h]; simp [List.map_take, List.map_drop]
  rw [e] at hown hl
  rw [List.length_map] at hl
  rw [hl, Nat.mul_one]
  exact hown

/-- The bits of a number; one for all NaNs. -/
def bitF (x : Nat) : Int := if nanF x = true then 18446744073709551615 else (x : Int)
/-- math.Float64bits -/
theorem bits_run (x : Nat) (W : World) : (callFunc 21 #[.float .f64 x]).run Try.prog W = .ok (.value (.int .u64 (x : Int))) W := by
  rw [run_callFunc_extern Try.func21 (by kernel_rfl) (by kernel_rfl) (by kernel_rfl) (e := Extern.MathFloatBits.float64bits) (by kernel_rfl) #[.float .f64 x] W]
  rfl

set_option maxRecDepth 100000 in
set_option maxHeartbeats 2000000 in
/-- spec.Bits -/
theorem specBits_calls (w : World) (B : Nat) (sv : Value) (zs : List Nat) (hI : SeesF w B sv zs) (hB : B ≤ w.heap.size) (hz : (zs.length + 1) * 8 ≤ 140737488355328) :
    Calls Try.prog 13 #[sv] w fun e w' =>
      ∃ v, e = .returned v ∧ w'.ownsRow w.heap.size 50 1 v (upw (zs.map bitF)).length ((upw (zs.map bitF)).map (Value.int .u64)) ∧ Below w.heap.size w w' := by
  obtain ⟨i0, hi, hz0, hz1, hz2⟩ := info_parts Try.infoU64
  obtain ⟨A, c, rfl, _, hs⟩ := (hI.more hB).form
  have hown0 := own_empty w w.heap.size 1 50 (Nat.le_refl _)
  have hb0 := (Below.refl w.heap.size w).alloc (Nat.le_refl _) (.cells #[] 50)
  clear hI
  go_enter Try.func13, Try.ntmps13
  go_wp2
  go_loopw [3, 4] (fun v i wr => ∃ (k : Nat) (g c' : Nat) (out : List Int), k ≤ zs.length ∧ i = .int .i64 k ∧ v = .slice (some ⟨g, 0, none⟩) out.length c' ∧ out = upw ((zs.take k).map bitF) ∧ wr.ownsRow w.heap.size 50 1 v out.length (out.map (Value.int .u64)) ∧ Below w.heap.size w wr) (fun _ i _ => zs.length - (intOf i).toNat)
  case atStart => exact ⟨0, _, _, [], Nat.zero_le _, rfl, rfl, rfl, hown0, hb0⟩
  case round =>
    obtain ⟨k, g, c', out, hk, rfl, rfl, hout, hrow, hb⟩ := hrel
    have hbs := hb.size
    have hol : out.length ≤ k := by rw [hout, upw_length, List.length_map, List.length_take]; omega
    clear hown0 hb0
    by_cases hlt : k < zs.length
    · obtain ⟨b, off, rfl, hbl, hx⟩ := hs (by omega)
      have d1 := (hb.cell (p := ⟨b, off + k, none⟩) hbl).trans (hx k hlt)
      have htk := Lib.hid (take_snoc_getDF zs hlt)
      clear hx hs
      generalize zs[k]?.getD 0 = x at d1 htk
      have Hout := Lib.hid hout
      clear hout
      obtain ⟨_, _, e, hcap⟩ := own_form hrow
      cases e
      obtain ⟨z, hz3⟩ : ∃ z, z = bitF x := ⟨_, rfl⟩
      have Hz := Lib.hid hz3
      have hfb := bits_run x
      have hord : (FloatKind.f64.format.order x x != some .eq) = nanF x := by
        unfold bne
        rw [order_self]
        simp
      clear hz3
      go_wp2_with fail
      go_quiet (fail)
      have hrow1 : (wr.drewN nq).ownsRow w.heap.size 50 1 (.slice (some ⟨g, 0, none⟩) out.length c') out.length (out.map (Value.int .u64)) := hrow
      have hb1 : Below w.heap.size w (wr.drewN nq) := below_drewN hb nq
      have d2 : (wr.drewN nq).cell? ⟨b, off + k, none⟩ = some (.float .f64 x) := d1
      have hbs1 : w.heap.size ≤ (wr.drewN nq).heap.size := hbs
      clear hrow hb d1 hbs
      generalize wr.drewN nq = wr at hrow1 hb1 d2 hbs1 ⊢
      have hrow := hrow1
      have hb := hb1
      have d1 := d2
      have hbs := hbs1
      clear hrow1 hb1 d2 hbs1
      go_upto_if 27 with fail
      go_cut [5] from 8 to 53 (fun u wx => u = .int .u64 z ∧ wr = wx)
      case first =>
        cases hn : nanF x with
        | true =>
          rw [hn] at hord
          go_wp2
          go_meet
          case rel => exact ⟨by rw [Hz.out]; simp [bitF, hn], rfl⟩
        | false =>
          rw [hn] at hord
          go_wp2
          go_meet
          case rel => exact ⟨by rw [Hz.out]; simp [bitF, hn], rfl⟩
      case rest =>
      obtain ⟨rfl, rfl⟩ := hcut
      clear hord hfb
      have hcell := own_u64 hrow
      go_wp2
      go_loopw [6] (fun j wr' => ∃ (m q : Nat), m ≤ out.length ∧ j = .int .i64 m ∧ UpTo out z m ∧ wr' = wr.drewN q) (fun j _ => out.length - (intOf j).toNat)
      case atStart => exact ⟨0, 0, Nat.zero_le _, rfl, fun j _ h => absurd h (Nat.not_lt_zero _), rfl⟩
      case round =>
        obtain ⟨m, q, hm, rfl, hup, rfl⟩ := hrel
        by_cases hml : m < out.length
        · have e1 := hcell m hml
          rw [List.getElem?_eq_getElem hml] at e1
          dsimp only [Option.getD_some] at e1
          by_cases hle : out[m] ≤ z
          · have hup' := Lib.hid (hup.step hml hle)
            clear hup hcell
            generalize out[m] = y at e1 hle
            go_wp2
            go_roundw
            case rel => exact ⟨m + 1, _, by omega, by go_num, hup'.out, rfl⟩
            case measure => simp [intOf]; omega
          · have hins := Lib.hid (hup.ins hm (fun _ => by omega))
            have hlt' : z < out[m] := by omega
            clear hup hcell hle
            generalize out[m] = y at e1 hlt'
            go_wp2
            have hrowW : (wr.drewN q).ownsRow w.heap.size 50 1 (.slice (some ⟨g, 0, none⟩) out.length c') out.length (out.map (Value.int .u64)) := hrow
            have hbW : Below w.heap.size w (wr.drewN q) := below_drewN hb q
            have hdW : (wr.drewN q).cell? ⟨b, off + k, none⟩ = some (.float .f64 x) := d1
            clear hrow hb d1 e1 hlt'
            generalize wr.drewN q = W at hrowW hbW hdW ⊢
            have hbs := hbW.size
            have hbl' : b < W.heap.size := by omega
            have m1 : (0 : Int) ≤ (m : Int) := by omega
            have m2 : (m : Int) ≤ (out.length : Int) := by omega
            have m3 : (m : Int) ≤ (c' : Int) := by omega
            have m4 : (k : Int) < (zs.length : Int) := by omega
            have hs1 : ∀ W', Below W.heap.size W W' → Sees W' W.heap.size 1 (.slice (some ⟨g, 0, none⟩) m c') m ((out.map (Value.int .u64)).take (m * 1)) := fun W' h => ((Sees.own hrowW).cut hm).below h
            obtain ⟨A2, hA2, hs2⟩ : ∃ A2, (if c' = m then some (⟨g, 0, none⟩ : Addr) else some ⟨g, m, none⟩) = A2 ∧ ∀ W', Below W.heap.size W W' → Sees W' W.heap.size 1 (.slice A2 (out.length - m) (c' - m)) (out.length - m) ((out.map (Value.int .u64)).drop (m * 1)) :=
              ⟨_, rfl, fun W' h => ((Sees.own hrowW).drop hm _ (fun h => by rw [if_neg (by omega)]; simp) _ (by omega)).below h⟩
            obtain ⟨oA, ⟨oB, oB1⟩, ⟨oC, oC1⟩⟩ := ins_rows W 50 1 #[.int .u64 z] rfl
            have kA := heldA ⟨hdW, Below.refl _ _⟩ rfl hbl' (.cells #[] 50)
            have kA' := heldA ⟨hdW, Below.refl _ _⟩ rfl hbl' (.cells #[.int .u64 z] 50)
            have kB := heldD (heldA kA rfl hbl' (.cells #[.int .u64 z] 50))
            have kC := heldD (heldA kA' rfl hbl' (.cells #[] 50))
            have kD := heldD kA
            have kE := heldD kA'
            go_region_held3 (fun w' => w'.cell? ⟨b, off + k, none⟩ = some (.float .f64 x) ∧ Below W.heap.size W w')
              (first | exact heldD ⟨hdW, Below.refl _ _⟩ | exact kB | exact kC | exact kD | exact kE | exact hk3 | exact hk2 | exact hk1 | exact heldA hk1 rfl hbl' _)
              (first
                | (refine step_append_sees _ rfl (.tmp 42) (.tmp 45) 34 (by rfl) W.heap.size 50 i0 (.int .u64 0) 1 8 Try.underlying34 hi hz0 hz1 hz2 rfl (by decide) _ 0 [] (by rfl) oA W.heap.size _ m _ (by rfl) (hs1 _ kD.2) (fun u hu => u64_cell _ u (List.mem_of_mem_take hu)) (by unfold maxLen; omega) (by omega) kD.2.size ?_; intro v1 w1 hown1 hg1; have hk1 := heldG kD rfl hbl' hg1 (by simp [Value.ownBlock]))
                | (refine step_append_sees _ rfl (.tmp 42) (.tmp 45) 34 (by rfl) W.heap.size 50 i0 (.int .u64 0) 1 8 Try.underlying34 hi hz0 hz1 hz2 rfl (by decide) _ 0 [] (by rfl) oB W.heap.size _ m _ (by rfl) (hs1 _ kB.2) (fun u hu => u64_cell _ u (List.mem_of_mem_take hu)) (by unfold maxLen; omega) (by omega) kB.2.size ?_; intro v1 w1 hown1 hg1; have hk1 := heldG kB rfl hbl' hg1 (by simp [Value.ownBlock]); have h39 := Sees.own (oB1.kept hg1 (.inr (by simp [Value.ownBlock]))))
                | (refine step_append_sees _ rfl (.tmp 42) (.tmp 45) 34 (by rfl) W.heap.size 50 i0 (.int .u64 0) 1 8 Try.underlying34 hi hz0 hz1 hz2 rfl (by decide) _ 0 [] (by rfl) oC W.heap.size _ m _ (by rfl) (hs1 _ kC.2) (fun u hu => u64_cell _ u (List.mem_of_mem_take hu)) (by unfold maxLen; omega) (by omega) kC.2.size ?_; intro v1 w1 hown1 hg1; have hk1 := heldG kC rfl hbl' hg1 (by simp [Value.ownBlock]); have h39 := Sees.own (oC1.kept hg1 (.inr (by simp [Value.ownBlock]))))
                | (refine step_append_sees _ rfl (.tmp 46) (.tmp 48) 34 (by rfl) W.heap.size 50 i0 (.int .u64 0) 1 8 Try.underlying34 hi hz0 hz1 hz2 rfl (by decide) _ (0 + m) _ (by rfl) hown1 w1.heap.size _ 1 _ (by rfl) h39 (by simp [Value.oneCell']) (by unfold maxLen; omega) (by omega) hk1.2.size ?_; intro v2 w2 hown2 hg2; have hk2 := heldG hk1 rfl hbl' hg2 (fun x hx => (hown1.lt x hx).1))
                | (refine step_append_sees _ rfl (.tmp 46) (.tmp 48) 34 (by rfl) W.heap.size 50 i0 (.int .u64 0) 1 8 Try.underlying34 hi hz0 hz1 hz2 rfl (by decide) _ (0 + m) _ (by rfl) (hown1.alloc _) (w1.alloc (.cells #[.int .u64 z] 50)).heap.size _ 1 _ (by rfl) (Sees.own (World.ownsRow_lit (base := 0) (size := 1) w1 #[.int .u64 z] 1 (Nat.zero_le _) (by unfold maxLen; omega) rfl)) (by simp [Value.oneCell']) (by unfold maxLen; omega) (by omega) (heldA hk1 rfl hbl' (.cells #[.int .u64 z] 50)).2.size ?_; intro v2 w2 hown2 hg2; have hk2 := heldG (heldA hk1 rfl hbl' (.cells #[.int .u64 z] 50)) rfl hbl' hg2 (fun x hx => ((hown1.alloc (.cells #[.int .u64 z] 50)).lt x hx).1))
                | (refine step_append_sees _ rfl (.tmp 49) (.tmp 52) 34 (by rfl) W.heap.size 50 i0 (.int .u64 0) 1 8 Try.underlying34 hi hz0 hz1 hz2 rfl (by decide) _ (0 + m + 1) _ (by rfl) hown2 W.heap.size _ (out.length - m) _ (by rfl) (hs2 _ hk2.2) (fun u hu => u64_cell _ u (List.mem_of_mem_drop hu)) (by unfold maxLen; omega) (by omega) hk2.2.size ?_; intro v3 w3 hown3 hg3; have hk3 := heldG hk2 rfl hbl' hg3 (fun x hx => (hown2.lt x hx).1))
                | fail)
            all_goals
              have hnew := Lib.hid (ins_doneU hins.out hown3)
              clear hown1 hown2 hown3 hs1 hs2 oA oB oB1 oC oC1 kA kA' kB kC kD kE
              go_wp2
              go_roundw
              case rel =>
                obtain ⟨g3, c3, e3⟩ := own_pos hnew.out (by rw [insU_length]; omega)
                exact ⟨k + 1, g3, c3, insU z out, by omega, by go_num, e3, by rw [htk.out, List.map_append, List.map_singleton, upw_snoc, Hout.out, Hz.out], own_base hnew.out hbs, hbW.trans (hk3.2.mono hbs)⟩
              case measure => simp [intOf]; omega
        · have hins := Lib.hid (hup.ins hm (fun h => absurd h hml))
          have hguard : decide (m < out.length) = false := by rw [decide_eq_false_iff_not]; omega
          clear hup hcell
          go_wp2
          have hrowW : (wr.drewN q).ownsRow w.heap.size 50 1 (.slice (some ⟨g, 0, none⟩) out.length c') out.length (out.map (Value.int .u64)) := hrow
          have hbW : Below w.heap.size w (wr.drewN q) := below_drewN hb q
          have hdW : (wr.drewN q).cell? ⟨b, off + k, none⟩ = some (.float .f64 x) := d1
          clear hrow hb d1
          generalize wr.drewN q = W at hrowW hbW hdW ⊢
          have hbs := hbW.size
          have hbl' : b < W.heap.size := by omega
          have m1 : (0 : Int) ≤ (m : Int) := by omega
          have m2 : (m : Int) ≤ (out.length : Int) := by omega
          have m3 : (m : Int) ≤ (c' : Int) := by omega
          have m4 : (k : Int) < (zs.length : Int) := by omega
          have hs1 : ∀ W', Below W.heap.size W W' → Sees W' W.heap.size 1 (.slice (some ⟨g, 0, none⟩) m c') m ((out.map (Value.int .u64)).take (m * 1)) := fun W' h => ((Sees.own hrowW).cut hm).below h
          obtain ⟨A2, hA2, hs2⟩ : ∃ A2, (if c' = m then some (⟨g, 0, none⟩ : Addr) else some ⟨g, m, none⟩) = A2 ∧ ∀ W', Below W.heap.size W W' → Sees W' W.heap.size 1 (.slice A2 (out.length - m) (c' - m)) (out.length - m) ((out.map (Value.int .u64)).drop (m * 1)) :=
            ⟨_, rfl, fun W' h => ((Sees.own hrowW).drop hm _ (fun h => by rw [if_neg (by omega)]; simp) _ (by omega)).below h⟩
          obtain ⟨oA, ⟨oB, oB1⟩, ⟨oC, oC1⟩⟩ := ins_rows W 50 1 #[.int .u64 z] rfl
          have kA := heldA ⟨hdW, Below.refl _ _⟩ rfl hbl' (.cells #[] 50)
          have kA' := heldA ⟨hdW, Below.refl _ _⟩ rfl hbl' (.cells #[.int .u64 z] 50)
          have kB := heldD (heldA kA rfl hbl' (.cells #[.int .u64 z] 50))
          have kC := heldD (heldA kA' rfl hbl' (.cells #[] 50))
          have kD := heldD kA
          have kE := heldD kA'
          go_region_held3 (fun w' => w'.cell? ⟨b, off + k, none⟩ = some (.float .f64 x) ∧ Below W.heap.size W w')
            (first | exact heldD ⟨hdW, Below.refl _ _⟩ | exact kB | exact kC | exact kD | exact kE | exact hk3 | exact hk2 | exact hk1 | exact heldA hk1 rfl hbl' _)
            (first
              | (refine step_append_sees _ rfl (.tmp 42) (.tmp 45) 34 (by rfl) W.heap.size 50 i0 (.int .u64 0) 1 8 Try.underlying34 hi hz0 hz1 hz2 rfl (by decide) _ 0 [] (by rfl) oA W.heap.size _ m _ (by rfl) (hs1 _ kD.2) (fun u hu => u64_cell _ u (List.mem_of_mem_take hu)) (by unfold maxLen; omega) (by omega) kD.2.size ?_; intro v1 w1 hown1 hg1; have hk1 := heldG kD rfl hbl' hg1 (by simp [Value.ownBlock]))
              | (refine step_append_sees _ rfl (.tmp 42) (.tmp 45) 34 (by rfl) W.heap.size 50 i0 (.int .u64 0) 1 8 Try.underlying34 hi hz0 hz1 hz2 rfl (by decide) _ 0 [] (by rfl) oB W.heap.size _ m _ (by rfl) (hs1 _ kB.2) (fun u hu => u64_cell _ u (List.mem_of_mem_take hu)) (by unfold maxLen; omega) (by omega) kB.2.size ?_; intro v1 w1 hown1 hg1; have hk1 := heldG kB rfl hbl' hg1 (by simp [Value.ownBlock]); have h39 := Sees.own (oB1.kept hg1 (.inr (by simp [Value.ownBlock]))))
              | (refine step_append_sees _ rfl (.tmp 42) (.tmp 45) 34 (by rfl) W.heap.size 50 i0 (.int .u64 0) 1 8 Try.underlying34 hi hz0 hz1 hz2 rfl (by decide) _ 0 [] (by rfl) oC W.heap.size _ m _ (by rfl) (hs1 _ kC.2) (fun u hu => u64_cell _ u (List.mem_of_mem_take hu)) (by unfold maxLen; omega) (by omega) kC.2.size ?_; intro v1 w1 hown1 hg1; have hk1 := heldG kC rfl hbl' hg1 (by simp [Value.ownBlock]); have h39 := Sees.own (oC1.kept hg1 (.inr (by simp [Value.ownBlock]))))
              | (refine step_append_sees _ rfl (.tmp 46) (.tmp 48) 34 (by rfl) W.heap.size 50 i0 (.int .u64 0) 1 8 Try.underlying34 hi hz0 hz1 hz2 rfl (by decide) _ (0 + m) _ (by rfl) hown1 w1.heap.size _ 1 _ (by rfl) h39 (by simp [Value.oneCell']) (by unfold maxLen; omega) (by omega) hk1.2.size ?_; intro v2 w2 hown2 hg2; have hk2 := heldG hk1 rfl hbl' hg2 (fun x hx => (hown1.lt x hx).1))
              | (refine step_append_sees _ rfl (.tmp 46) (.tmp 48) 34 (by rfl) W.heap.size 50 i0 (.int .u64 0) 1 8 Try.underlying34 hi hz0 hz1 hz2 rfl (by decide) _ (0 + m) _ (by rfl) (hown1.alloc _) (w1.alloc (.cells #[.int .u64 z] 50)).heap.size _ 1 _ (by rfl) (Sees.own (World.ownsRow_lit (base := 0) (size := 1) w1 #[.int .u64 z] 1 (Nat.zero_le _) (by unfold maxLen; omega) rfl)) (by simp [Value.oneCell']) (by unfold maxLen; omega) (by omega) (heldA hk1 rfl hbl' (.cells #[.int .u64 z] 50)).2.size ?_; intro v2 w2 hown2 hg2; have hk2 := heldG (heldA hk1 rfl hbl' (.cells #[.int .u64 z] 50)) rfl hbl' hg2 (fun x hx => ((hown1.alloc (.cells #[.int .u64 z] 50)).lt x hx).1))
              | (refine step_append_sees _ rfl (.tmp 49) (.tmp 52) 34 (by rfl) W.heap.size 50 i0 (.int .u64 0) 1 8 Try.underlying34 hi hz0 hz1 hz2 rfl (by decide) _ (0 + m + 1) _ (by rfl) hown2 W.heap.size _ (out.length - m) _ (by rfl) (hs2 _ hk2.2) (fun u hu => u64_cell _ u (List.mem_of_mem_drop hu)) (by unfold maxLen; omega) (by omega) hk2.2.size ?_; intro v3 w3 hown3 hg3; have hk3 := heldG hk2 rfl hbl' hg3 (fun x hx => (hown2.lt x hx).1))
              | fail)
          all_goals
            have hnew := Lib.hid (ins_doneU hins.out hown3)
            clear hown1 hown2 hown3 hs1 hs2 oA oB oB1 oC oC1 kA kA' kB kC kD kE
            go_wp2
            go_roundw
            case rel =>
              obtain ⟨g3, c3, e3⟩ := own_pos hnew.out (by rw [insU_length]; omega)
              exact ⟨k + 1, g3, c3, insU z out, by omega, by go_num, e3, by rw [htk.out, List.map_append, List.map_singleton, upw_snoc, Hout.out, Hz.out], own_base hnew.out hbs, hbW.trans (hk3.2.mono hbs)⟩
            case measure => simp [intOf]; omega
    · obtain rfl : k = zs.length := by omega
      rw [List.take_of_length_le (Nat.le_refl _)] at hout
      have Hout := Lib.hid hout
      clear hout hs
      go_wp2
      go_ret
      exact ⟨_, rfl, by rw [← Hout.out]; exact hrow, hb⟩

end Go.Proofs.Ytlibakmllogcdaa
