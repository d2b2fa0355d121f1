/-
  The contract of spec.Map: the pairs by ascending keys, of each key the last one. No statement is proved here.
-/
import Derived.Test.YtfagmnjhpipndaaMapLaw
import Derived.Test.YtfagmnjhpipndaaDrawn
namespace Go.Proofs.Ytfagmnjhpipndaa
open Go.RowKit Go.Shelf

theorem pcells_set (l : List (Int × Int)) (k : Nat) (hk : k < l.length) (v : Int) : (pcells l).set (k * 2 + 1) (.int .i64 v) = pcells (l.set k (l[k].1, v)) := by
  induction l generalizing k with
  | nil => exact absurd hk (by simp)
  | cons p l ih =>
    have e : ∀ q r, pcells (q :: r) = .int .i64 q.1 :: .int .i64 q.2 :: pcells r := fun _ _ => rfl
    cases k with
    | zero => rfl
    | succ k =>
      rw [e, show (k + 1) * 2 + 1 = k * 2 + 1 + 1 + 1 from by omega]
      simp only [List.set_cons_succ, List.getElem_cons_succ, e]
      rw [ih k (by simpa using hk)]
theorem pcells_drop (ps : List (Int × Int)) (k : Nat) : (pcells ps).drop (k * 2) = pcells (ps.drop k) := by
  induction ps generalizing k with
  | nil => simp [pcells]
  | cons p ps ih =>
    cases k with
    | zero => simp [pcells]
    | succ k =>
      have e : pcells (p :: ps) = .int .i64 p.1 :: .int .i64 p.2 :: pcells ps := rfl
      rw [e, show (k + 1) * 2 = k * 2 + 1 + 1 from by omega]
      simp only [List.drop_succ_cons, ih]
theorem own_pair {w : World} {base g c : Nat} {e : TypeId} {ps : List (Int × Int)} (h : w.ownsRow base e 2 (.slice (some ⟨g, 0, none⟩) ps.length c) ps.length (pcells ps)) (k : Nat) (hk : k < ps.length) :
    w.cell? ⟨g, k * 2, none⟩ = some (.int .i64 ps[k].1) ∧ w.cell? ⟨g, k * 2 + 1, none⟩ = some (.int .i64 ps[k].2) := by
  have := pcells_get ps k hk
  exact ⟨(h.cellAt (k * 2) (by omega)).trans this.1, (h.cellAt (k * 2 + 1) (by omega)).trans this.2⟩

/-- As far as the inner loop has come. -/
def LowTo (l : List (Int × Int)) (x : Int) (k : Nat) : Prop := ∀ j (h : j < l.length), j < k → l[j].1 < x
theorem LowTo.step {l : List (Int × Int)} {x : Int} {k : Nat} (h : LowTo l x k) (hk : k < l.length) (hv : l[k].1 < x) : LowTo l x (k + 1) := by
  intro j hj hlt
  rcases Nat.lt_or_ge j k with h1 | h1
  · exact h j hj h1
  · obtain rfl : j = k := by omega
    exact hv
/-- The pairs of the map, as spec.Map puts them. -/
def mapU (ps : List (Int × Int)) : List (Int × Int) := ps.foldl (fun acc p => insM p acc) []
theorem mapU_snoc (ps : List (Int × Int)) (p : Int × Int) : mapU (ps ++ [p]) = insM p (mapU ps) := by simp [mapU, List.foldl_append]
theorem mapU_length (ps : List (Int × Int)) : (mapU ps).length ≤ ps.length := by
  have key : ∀ (ps acc : List (Int × Int)), (ps.foldl (fun acc p => insM p acc) acc).length ≤ acc.length + ps.length := by
    intro ps
    induction ps with
    | nil => intro acc; simp
    | cons p ps ih =>
      intro acc
      have h1 := ih (insM p acc)
      have h2 := insM_length p acc
      simp only [List.foldl_cons, List.length_cons]
      omega
  simpa [mapU] using key ps []
theorem mapU_graph (ps : List (Int × Int)) : Graph (mapU ps) (mkm ps) := by
  have key : ∀ (ps acc : List (Int × Int)) (f : FMap), Graph acc f → Graph (ps.foldl (fun acc p => insM p acc) acc) (ups f ps) := by
    intro ps
    induction ps with
    | nil => intro acc f h; exact h
    | cons p ps ih => intro acc f h; exact ih _ _ (h.ins p)
  exact key ps [] noMap graph_none

theorem insM_done {w : World} {base : Nat} {v : Value} {out : List (Int × Int)} {p1 p2 : Int} {m : Nat} (h : insM (p1, p2) out = out.take m ++ [(p1, p2)] ++ out.drop m)
    (hown : w.ownsRow base 32 2 v (0 + m + 1 + (out.length - m)) ([] ++ (pcells out).take (m * 2) ++ #[Value.int .i64 p1, Value.int .i64 p2].toList ++ (pcells out).drop (m * 2))) :
    w.ownsRow base 32 2 v (insM (p1, p2) out).length (pcells (insM (p1, p2) out)) := by
  have hl := hown.1
  have e : [] ++ (pcells out).take (m * 2) ++ #[Value.int .i64 p1, Value.int .i64 p2].toList ++ (pcells out).drop (m * 2) = pcells (insM (p1, p2) out) := by
    rw [h, pcells_append, pcells_append, pcells_take, pcells_drop]; rfl
  rw [e] at hown hl
  rw [pcells_length] at hl
  rw [show (insM (p1, p2) out).length = 0 + m + 1 + (out.length - m) by omega]
  exact hown

set_option maxRecDepth 100000 in
set_option maxHeartbeats 4000000 in
/-- spec.Map -/
theorem specMap_calls (w : World) (B : Nat) (sv : Value) (ps : List (Int × Int)) (hI : SeesP w B sv ps) (hB : B ≤ w.heap.size) (hz : (ps.length + 1) * 16 ≤ 140737488355328) :
    Calls Try.prog 50 #[sv] w fun e w' =>
      ∃ v, e = .returned v ∧ w'.ownsRow w.heap.size 32 2 v (mapU ps).length (pcells (mapU ps)) ∧ Below w.heap.size w w' := by
  obtain ⟨i0, hi, hz0, hz1, hz2⟩ := info_parts Try.infoPair
  obtain ⟨A, c, rfl, _, hs⟩ := (hI.more hB).form
  have hown0 := own_empty w w.heap.size 2 32 (Nat.le_refl _)
  have hb0 := (Below.refl w.heap.size w).alloc (Nat.le_refl _) (.cells #[] 32)
  clear hI
  go_enter Try.func50, Try.ntmps50
  go_wp2
  go_loopw [3, 4] (fun v i wr => ∃ (k : Nat) (g c' : Nat) (out : List (Int × Int)), k ≤ ps.length ∧ i = .int .i64 k ∧ v = .slice (some ⟨g, 0, none⟩) out.length c' ∧ out = mapU (ps.take k) ∧ wr.ownsRow w.heap.size 32 2 v out.length (pcells out) ∧ Below w.heap.size w wr) (fun _ i _ => ps.length - (intOf i).toNat)
  case atStart => exact ⟨0, _, _, [], Nat.zero_le _, rfl, rfl, rfl, hown0, hb0⟩
  case round =>
    obtain ⟨k, g, c', out, hk, rfl, rfl, hout, hrow, hb⟩ := hrel
    have hbs := hb.size
    have hol : out.length ≤ k := by have := mapU_length (ps.take k); rw [List.length_take] at this; rw [hout]; omega
    clear hown0 hb0
    by_cases hlt : k < ps.length
    · obtain ⟨b, off, rfl, hbl, hx⟩ := hs (by omega)
      obtain ⟨x1, x2⟩ := hx k hlt
      have d1 := (hb.cell (p := ⟨b, off + k * 2, none⟩) hbl).trans x1
      have d2 := (hb.cell (p := ⟨b, off + k * 2 + 1, none⟩) hbl).trans x2
      have htk := Lib.hid (take_snoc ps hlt)
      clear hx hs x1 x2
      generalize ps[k] = q at d1 d2 htk
      obtain ⟨p1, p2⟩ := q
      dsimp only at d1 d2
      have Hout := Lib.hid hout
      clear hout
      obtain ⟨_, _, e, hcap⟩ := own_form hrow
      cases e
      have hcell := own_pair hrow
      go_wp2
      go_loopw [5] (fun j wr' => ∃ (m q : Nat), m ≤ out.length ∧ j = .int .i64 m ∧ LowTo out p1 m ∧ wr' = wr.drewN q) (fun j _ => out.length - (intOf j).toNat)
      case atStart => exact ⟨0, 0, Nat.zero_le _, rfl, fun j _ h => absurd h (Nat.not_lt_zero _), rfl⟩
      case round =>
        obtain ⟨m, q, hm, rfl, hup, rfl⟩ := hrel
        have hins0 := insM_at (p1, p2) out m hm (fun j hj => hup j (by omega) hj)
        by_cases hml : m < out.length
        · obtain ⟨e1, e2⟩ := hcell m hml
          by_cases hle : out[m].1 < p1
          · have hup' := Lib.hid (hup.step hml hle)
            clear hup hcell hins0
            generalize out[m] = y at e1 e2 hle
            obtain ⟨y1, y2⟩ := y
            dsimp only at e1 e2 hle
            go_wp2
            go_quiet (fail)
            go_wp2
            go_roundw
            case rel => exact ⟨m + 1, _, by omega, by go_num, hup'.out, rfl⟩
            case measure => simp [intOf]; omega
          · by_cases heq : out[m].1 = p1
            · have hins := Lib.hid (hins0.1 hml heq)
              have hset := Lib.hid (pcells_set out m hml p2)
              have hfr := hrow.frozenAt (m * 2 + 1)
              have Hget := Lib.hid (show (out[m].1, p2) = (p1, p2) by rw [heq])
              clear hup hcell hins0 hle
              generalize out[m] = y at e1 e2 heq hset Hget
              obtain ⟨y1, y2⟩ := y
              dsimp only at e1 e2 heq hset Hget
              subst heq
              go_wp2
              go_quiet (fail)
              go_wp2
              go_quiet (fail)
              go_wp2
              go_roundw
              case rel => exact ⟨k + 1, g, c', insM (y1, p2) out, by omega, by go_num, by rw [hins.out, List.length_set], by rw [htk.out, mapU_snoc, Hout.out], by rw [hins.out, List.length_set, ← hset.out]; exact (World.ownsRow.stored (w := wr.drewN _) hrow (m * 2 + 1) (.int .i64 p2)).1, (below_drewN hb _).setCell (p := ⟨g, m * 2 + 1, none⟩) (hrow.lt g rfl).1 _⟩
              case measure => simp [intOf]; omega
            · have hins := Lib.hid (hins0.2 (fun _ => by show p1 < out[m].1; omega))
              have hlt' : p1 < out[m].1 := by omega
              clear hup hcell hle heq hins0
              generalize out[m] = y at e1 e2 hlt'
              obtain ⟨y1, y2⟩ := y
              dsimp only at e1 e2 hlt'
              go_wp2
              go_quiet (fail)
              generalize nq = q1
              go_wp2
              go_quiet (fail)
              go_wp2
              have hrowW : (((wr.drewN q).drewN q1).drewN nq).ownsRow w.heap.size 32 2 (.slice (some ⟨g, 0, none⟩) out.length c') out.length (pcells out) := hrow
              have hbW : Below w.heap.size w (((wr.drewN q).drewN q1).drewN nq) := below_drewN (below_drewN (below_drewN hb q) q1) nq
              have hdW : (((wr.drewN q).drewN q1).drewN nq).cell? ⟨b, off + k * 2, none⟩ = some (.int .i64 p1) := d1
              have hdW2 : (((wr.drewN q).drewN q1).drewN nq).cell? ⟨b, off + k * 2 + 1, none⟩ = some (.int .i64 p2) := d2
              clear hrow hb d1 d2 e1 e2 hlt'
              generalize ((wr.drewN q).drewN q1).drewN nq = W at hrowW hbW hdW hdW2 ⊢
              have hbs := hbW.size
              have hbl' : b < W.heap.size := by omega
              have m1 : (0 : Int) ≤ (m : Int) := by omega
              have m2 : (m : Int) ≤ (out.length : Int) := by omega
              have m3 : (m : Int) ≤ (c' : Int) := by omega
              have m4 : (k : Int) < (ps.length : Int) := by omega
              have hs1 : ∀ W', Below W.heap.size W W' → Sees W' W.heap.size 2 (.slice (some ⟨g, 0, none⟩) m c') m ((pcells out).take (m * 2)) := fun W' h => ((Sees.own hrowW).cut hm).below h
              obtain ⟨A2, hA2, hs2⟩ : ∃ A2, (if c' = m then some (⟨g, 0, none⟩ : Addr) else some ⟨g, m * 2, none⟩) = A2 ∧ ∀ W', Below W.heap.size W W' → Sees W' W.heap.size 2 (.slice A2 (out.length - m) (c' - m)) (out.length - m) ((pcells out).drop (m * 2)) :=
                ⟨_, rfl, fun W' h => ((Sees.own hrowW).drop hm _ (fun h => by rw [if_neg (by omega)]; simp) _ (by omega)).below h⟩
              obtain ⟨oA, ⟨oB, oB1⟩, ⟨oC, oC1⟩⟩ := ins_rows W 32 2 #[.int .i64 p1, .int .i64 p2] rfl
              have kA := heldA2 ⟨hdW, hdW2, Below.refl _ _⟩ rfl hbl' hbl' (.cells #[] 32)
              have kA' := heldA2 ⟨hdW, hdW2, Below.refl _ _⟩ rfl hbl' hbl' (.cells #[.int .i64 p1, .int .i64 p2] 32)
              have kB := heldD2 (heldA2 kA rfl hbl' hbl' (.cells #[.int .i64 p1, .int .i64 p2] 32))
              have kC := heldD2 (heldA2 kA' rfl hbl' hbl' (.cells #[] 32))
              have kD := heldD2 kA
              have kE := heldD2 kA'
              go_region_held3 (fun w' => w'.cell? ⟨b, off + k * 2, none⟩ = some (.int .i64 p1) ∧ w'.cell? ⟨b, off + k * 2 + 1, none⟩ = some (.int .i64 p2) ∧ Below W.heap.size W w')
                (first | exact heldD2 ⟨hdW, hdW2, Below.refl _ _⟩ | exact kB | exact kC | exact kD | exact kE | exact hk3 | exact hk2 | exact hk1 | exact heldA2 hk1 rfl hbl' hbl' _)
                (first
                  | (refine step_append_sees _ rfl (.tmp 58) (.tmp 61) 23 (by rfl) W.heap.size 32 i0 (.agg #[.int .i64 0, .int .i64 0]) 2 16 Try.underlying23 hi hz0 hz1 hz2 rfl (by decide) _ 0 [] (by rfl) oA W.heap.size _ m _ (by rfl) (hs1 _ kD.2.2) (fun u hu => pcells_cell _ u (List.mem_of_mem_take hu)) (by unfold maxLen; omega) (by omega) kD.2.2.size ?_; intro v1 w1 hown1 hg1; have hk1 := heldG2 kD rfl hbl' hbl' hg1 (by simp [Value.ownBlock]))
                  | (refine step_append_sees _ rfl (.tmp 58) (.tmp 61) 23 (by rfl) W.heap.size 32 i0 (.agg #[.int .i64 0, .int .i64 0]) 2 16 Try.underlying23 hi hz0 hz1 hz2 rfl (by decide) _ 0 [] (by rfl) oB W.heap.size _ m _ (by rfl) (hs1 _ kB.2.2) (fun u hu => pcells_cell _ u (List.mem_of_mem_take hu)) (by unfold maxLen; omega) (by omega) kB.2.2.size ?_; intro v1 w1 hown1 hg1; have hk1 := heldG2 kB rfl hbl' hbl' hg1 (by simp [Value.ownBlock]); have h39 := Sees.own (oB1.kept hg1 (.inr (by simp [Value.ownBlock]))))
                  | (refine step_append_sees _ rfl (.tmp 58) (.tmp 61) 23 (by rfl) W.heap.size 32 i0 (.agg #[.int .i64 0, .int .i64 0]) 2 16 Try.underlying23 hi hz0 hz1 hz2 rfl (by decide) _ 0 [] (by rfl) oC W.heap.size _ m _ (by rfl) (hs1 _ kC.2.2) (fun u hu => pcells_cell _ u (List.mem_of_mem_take hu)) (by unfold maxLen; omega) (by omega) kC.2.2.size ?_; intro v1 w1 hown1 hg1; have hk1 := heldG2 kC rfl hbl' hbl' hg1 (by simp [Value.ownBlock]); have h39 := Sees.own (oC1.kept hg1 (.inr (by simp [Value.ownBlock]))))
                  | (refine step_append_sees _ rfl (.tmp 62) (.tmp 67) 23 (by rfl) W.heap.size 32 i0 (.agg #[.int .i64 0, .int .i64 0]) 2 16 Try.underlying23 hi hz0 hz1 hz2 rfl (by decide) _ (0 + m) _ (by rfl) hown1 w1.heap.size _ 1 _ (by rfl) h39 (by simp [Value.oneCell']) (by unfold maxLen; omega) (by omega) hk1.2.2.size ?_; intro v2 w2 hown2 hg2; have hk2 := heldG2 hk1 rfl hbl' hbl' hg2 (fun x hx => (hown1.lt x hx).1))
                  | (refine step_append_sees _ rfl (.tmp 62) (.tmp 67) 23 (by rfl) W.heap.size 32 i0 (.agg #[.int .i64 0, .int .i64 0]) 2 16 Try.underlying23 hi hz0 hz1 hz2 rfl (by decide) _ (0 + m) _ (by rfl) (hown1.alloc _) (w1.alloc (.cells #[.int .i64 p1, .int .i64 p2] 32)).heap.size _ 1 _ (by rfl) (Sees.own (World.ownsRow_lit (base := 0) (size := 2) w1 #[.int .i64 p1, .int .i64 p2] 1 (Nat.zero_le _) (by unfold maxLen; omega) rfl)) (by simp [Value.oneCell']) (by unfold maxLen; omega) (by omega) (heldA2 hk1 rfl hbl' hbl' (.cells #[.int .i64 p1, .int .i64 p2] 32)).2.2.size ?_; intro v2 w2 hown2 hg2; have hk2 := heldG2 (heldA2 hk1 rfl hbl' hbl' (.cells #[.int .i64 p1, .int .i64 p2] 32)) rfl hbl' hbl' hg2 (fun x hx => ((hown1.alloc (.cells #[.int .i64 p1, .int .i64 p2] 32)).lt x hx).1))
                  | (refine step_append_sees _ rfl (.tmp 68) (.tmp 71) 23 (by rfl) W.heap.size 32 i0 (.agg #[.int .i64 0, .int .i64 0]) 2 16 Try.underlying23 hi hz0 hz1 hz2 rfl (by decide) _ (0 + m + 1) _ (by rfl) hown2 W.heap.size _ (out.length - m) _ (by rfl) (hs2 _ hk2.2.2) (fun u hu => pcells_cell _ u (List.mem_of_mem_drop hu)) (by unfold maxLen; omega) (by omega) hk2.2.2.size ?_; intro v3 w3 hown3 hg3; have hk3 := heldG2 hk2 rfl hbl' hbl' hg3 (fun x hx => (hown2.lt x hx).1))
                  | fail)
              all_goals
                have hnew := Lib.hid (insM_done hins.out hown3)
                clear hown1 hown2 hown3 hs1 hs2 oA oB oB1 oC oC1 kA kA' kB kC kD kE
                go_wp2
                go_roundw
                case rel =>
                  obtain ⟨g3, c3, e3⟩ := own_pos hnew.out (by rw [hins.out]; simp; omega)
                  exact ⟨k + 1, g3, c3, insM (p1, p2) out, by omega, by go_num, e3, by rw [htk.out, mapU_snoc, Hout.out], own_base hnew.out hbs, hbW.trans (hk3.2.2.mono hbs)⟩
                case measure => simp [intOf]; omega
        · have hins := Lib.hid (hins0.2 (fun h => absurd h hml))
          have hguard : decide (m < out.length) = false := by rw [decide_eq_false_iff_not]; omega
          clear hup hcell hins0
          go_wp2
          go_quiet (fail)
          generalize nq = q1
          go_wp2
          go_quiet (fail)
          go_wp2
          have hrowW : (((wr.drewN q).drewN q1).drewN nq).ownsRow w.heap.size 32 2 (.slice (some ⟨g, 0, none⟩) out.length c') out.length (pcells out) := hrow
          have hbW : Below w.heap.size w (((wr.drewN q).drewN q1).drewN nq) := below_drewN (below_drewN (below_drewN hb q) q1) nq
          have hdW : (((wr.drewN q).drewN q1).drewN nq).cell? ⟨b, off + k * 2, none⟩ = some (.int .i64 p1) := d1
          have hdW2 : (((wr.drewN q).drewN q1).drewN nq).cell? ⟨b, off + k * 2 + 1, none⟩ = some (.int .i64 p2) := d2
          clear hrow hb d1 d2
          generalize ((wr.drewN q).drewN q1).drewN nq = W at hrowW hbW hdW hdW2 ⊢
          have hbs := hbW.size
          have hbl' : b < W.heap.size := by omega
          have m1 : (0 : Int) ≤ (m : Int) := by omega
          have m2 : (m : Int) ≤ (out.length : Int) := by omega
          have m3 : (m : Int) ≤ (c' : Int) := by omega
          have m4 : (k : Int) < (ps.length : Int) := by omega
          have hs1 : ∀ W', Below W.heap.size W W' → Sees W' W.heap.size 2 (.slice (some ⟨g, 0, none⟩) m c') m ((pcells out).take (m * 2)) := fun W' h => ((Sees.own hrowW).cut hm).below h
          obtain ⟨A2, hA2, hs2⟩ : ∃ A2, (if c' = m then some (⟨g, 0, none⟩ : Addr) else some ⟨g, m * 2, none⟩) = A2 ∧ ∀ W', Below W.heap.size W W' → Sees W' W.heap.size 2 (.slice A2 (out.length - m) (c' - m)) (out.length - m) ((pcells out).drop (m * 2)) :=
            ⟨_, rfl, fun W' h => ((Sees.own hrowW).drop hm _ (fun h => by rw [if_neg (by omega)]; simp) _ (by omega)).below h⟩
          obtain ⟨oA, ⟨oB, oB1⟩, ⟨oC, oC1⟩⟩ := ins_rows W 32 2 #[.int .i64 p1, .int .i64 p2] rfl
          have kA := heldA2 ⟨hdW, hdW2, Below.refl _ _⟩ rfl hbl' hbl' (.cells #[] 32)
          have kA' := heldA2 ⟨hdW, hdW2, Below.refl _ _⟩ rfl hbl' hbl' (.cells #[.int .i64 p1, .int .i64 p2] 32)
          have kB := heldD2 (heldA2 kA rfl hbl' hbl' (.cells #[.int .i64 p1, .int .i64 p2] 32))
          have kC := heldD2 (heldA2 kA' rfl hbl' hbl' (.cells #[] 32))
          have kD := heldD2 kA
          have kE := heldD2 kA'
          go_region_held3 (fun w' => w'.cell? ⟨b, off + k * 2, none⟩ = some (.int .i64 p1) ∧ w'.cell? ⟨b, off + k * 2 + 1, none⟩ = some (.int .i64 p2) ∧ Below W.heap.size W w')
            (first | exact heldD2 ⟨hdW, hdW2, Below.refl _ _⟩ | exact kB | exact kC | exact kD | exact kE | exact hk3 | exact hk2 | exact hk1 | exact heldA2 hk1 rfl hbl' hbl' _)
            (first
              | (refine step_append_sees _ rfl (.tmp 58) (.tmp 61) 23 (by rfl) W.heap.size 32 i0 (.agg #[.int .i64 0, .int .i64 0]) 2 16 Try.underlying23 hi hz0 hz1 hz2 rfl (by decide) _ 0 [] (by rfl) oA W.heap.size _ m _ (by rfl) (hs1 _ kD.2.2) (fun u hu => pcells_cell _ u (List.mem_of_mem_take hu)) (by unfold maxLen; omega) (by omega) kD.2.2.size ?_; intro v1 w1 hown1 hg1; have hk1 := heldG2 kD rfl hbl' hbl' hg1 (by simp [Value.ownBlock]))
              | (refine step_append_sees _ rfl (.tmp 58) (.tmp 61) 23 (by rfl) W.heap.size 32 i0 (.agg #[.int .i64 0, .int .i64 0]) 2 16 Try.underlying23 hi hz0 hz1 hz2 rfl (by decide) _ 0 [] (by rfl) oB W.heap.size _ m _ (by rfl) (hs1 _ kB.2.2) (fun u hu => pcells_cell _ u (List.mem_of_mem_take hu)) (by unfold maxLen; omega) (by omega) kB.2.2.size ?_; intro v1 w1 hown1 hg1; have hk1 := heldG2 kB rfl hbl' hbl' hg1 (by simp [Value.ownBlock]); have h39 := Sees.own (oB1.kept hg1 (.inr (by simp [Value.ownBlock]))))
              | (refine step_append_sees _ rfl (.tmp 58) (.tmp 61) 23 (by rfl) W.heap.size 32 i0 (.agg #[.int .i64 0, .int .i64 0]) 2 16 Try.underlying23 hi hz0 hz1 hz2 rfl (by decide) _ 0 [] (by rfl) oC W.heap.size _ m _ (by rfl) (hs1 _ kC.2.2) (fun u hu => pcells_cell _ u (List.mem_of_mem_take hu)) (by unfold maxLen; omega) (by omega) kC.2.2.size ?_; intro v1 w1 hown1 hg1; have hk1 := heldG2 kC rfl hbl' hbl' hg1 (by simp [Value.ownBlock]); have h39 := Sees.own (oC1.kept hg1 (.inr (by simp [Value.ownBlock]))))
              | (refine step_append_sees _ rfl (.tmp 62) (.tmp 67) 23 (by rfl) W.heap.size 32 i0 (.agg #[.int .i64 0, .int .i64 0]) 2 16 Try.underlying23 hi hz0 hz1 hz2 rfl (by decide) _ (0 + m) _ (by rfl) hown1 w1.heap.size _ 1 _ (by rfl) h39 (by simp [Value.oneCell']) (by unfold maxLen; omega) (by omega) hk1.2.2.size ?_; intro v2 w2 hown2 hg2; have hk2 := heldG2 hk1 rfl hbl' hbl' hg2 (fun x hx => (hown1.lt x hx).1))
              | (refine step_append_sees _ rfl (.tmp 62) (.tmp 67) 23 (by rfl) W.heap.size 32 i0 (.agg #[.int .i64 0, .int .i64 0]) 2 16 Try.underlying23 hi hz0 hz1 hz2 rfl (by decide) _ (0 + m) _ (by rfl) (hown1.alloc _) (w1.alloc (.cells #[.int .i64 p1, .int .i64 p2] 32)).heap.size _ 1 _ (by rfl) (Sees.own (World.ownsRow_lit (base := 0) (size := 2) w1 #[.int .i64 p1, .int .i64 p2] 1 (Nat.zero_le _) (by unfold maxLen; omega) rfl)) (by simp [Value.oneCell']) (by unfold maxLen; omega) (by omega) (heldA2 hk1 rfl hbl' hbl' (.cells #[.int .i64 p1, .int .i64 p2] 32)).2.2.size ?_; intro v2 w2 hown2 hg2; have hk2 := heldG2 (heldA2 hk1 rfl hbl' hbl' (.cells #[.int .i64 p1, .int .i64 p2] 32)) rfl hbl' hbl' hg2 (fun x hx => ((hown1.alloc (.cells #[.int .i64 p1, .int .i64 p2] 32)).lt x hx).1))
              | (refine step_append_sees _ rfl (.tmp 68) (.tmp 71) 23 (by rfl) W.heap.size 32 i0 (.agg #[.int .i64 0, .int .i64 0]) 2 16 Try.underlying23 hi hz0 hz1 hz2 rfl (by decide) _ (0 + m + 1) _ (by rfl) hown2 W.heap.size _ (out.length - m) _ (by rfl) (hs2 _ hk2.2.2) (fun u hu => pcells_cell _ u (List.mem_of_mem_drop hu)) (by unfold maxLen; omega) (by omega) hk2.2.2.size ?_; intro v3 w3 hown3 hg3; have hk3 := heldG2 hk2 rfl hbl' hbl' hg3 (fun x hx => (hown2.lt x hx).1))
              | fail)
          all_goals
            have hnew := Lib.hid (insM_done hins.out hown3)
            clear hown1 hown2 hown3 hs1 hs2 oA oB oB1 oC oC1 kA kA' kB kC kD kE
            go_wp2
            go_roundw
            case rel =>
              obtain ⟨g3, c3, e3⟩ := own_pos hnew.out (by rw [hins.out]; simp; omega)
              exact ⟨k + 1, g3, c3, insM (p1, p2) out, by omega, by go_num, e3, by rw [htk.out, mapU_snoc, Hout.out], own_base hnew.out hbs, hbW.trans (hk3.2.2.mono hbs)⟩
            case measure => simp [intOf]; omega
    · obtain rfl : k = ps.length := by omega
      rw [List.take_of_length_le (Nat.le_refl _)] at hout
      have Hout := Lib.hid hout
      clear hout hs
      go_wp2
      go_ret
      exact ⟨_, rfl, by rw [← Hout.out]; exact hrow, hb⟩

end Go.Proofs.Ytfagmnjhpipndaa
