/-
  Plain words for slices in memory that these proofs share: no statement is proved here. 'Sees w B sz v n xs': the slice value v has n elements, whose cells are xs, in a block below B (or there is none).
-/
import Derived.Test.YtlibakmllogcdaaRows
import Derived.RangeFuncNested
import Derived.RangeFuncBox
import Derived.RangeFuncBound
import Derived.RangeFuncCalls
import Derived.RangeFuncLeaves
import Derived.Shelf.Abstract
import Derived.Shelf.RegionOpen
import Derived.WalkKit
import Derived.WalkSpells
import Derived.WalkLawsBesides
import Derived.OwnWalkIn
import Derived.TacticsInMore
import Derived.LoopNIn
import Derived.LoopIn
import Derived.Maps.AppendAt
import Derived.Lib.Hide
import Derived.Deep.QuietTactic
import Derived.BigQuiet
namespace Go.Proofs.Ytlibakmllogcdaa
open Go.RowKit Go.Shelf

/-- The slice value v shows n elements of sz cells each, xs in all, in a block below B. -/
def Sees (w : World) (B sz : Nat) (v : Value) (n : Nat) (xs : List Value) : Prop :=
  xs.length = n * sz ∧ ∃ A c, v = .slice A n c ∧ n ≤ c ∧
    (0 < n → ∃ b off, A = some ⟨b, off, none⟩ ∧ b < B ∧ ∀ j, j < n * sz → w.cell? ⟨b, off + j, none⟩ = xs[j]?)

section
variable {w w' : World} {B B' sz n : Nat} {v : Value} {xs : List Value}

theorem Sees.keep (h : Sees w B sz v n xs) (hk : ∀ p : Addr, p.block < B → w'.cell? p = w.cell? p) : Sees w' B sz v n xs := by
  obtain ⟨hl, A, c, e, hc, hs⟩ := h
  refine ⟨hl, A, c, e, hc, fun h0 => ?_⟩
  obtain ⟨b, off, hA, hb, hx⟩ := hs h0
  exact ⟨b, off, hA, hb, fun j hj => (hk ⟨b, off + j, none⟩ hb).trans (hx j hj)⟩
theorem Sees.below (h : Sees w B sz v n xs) (hb : Below B w w') : Sees w' B sz v n xs := h.keep fun _ hp => hb.cell hp
theorem Sees.more (h : Sees w B sz v n xs) (hB : B ≤ B') : Sees w B' sz v n xs := by
  obtain ⟨hl, A, c, e, hc, hs⟩ := h
  refine ⟨hl, A, c, e, hc, fun h0 => ?_⟩
  obtain ⟨b, off, hA, hb, hx⟩ := hs h0
  exact ⟨b, off, hA, Nat.lt_of_lt_of_le hb hB, hx⟩
theorem Sees.drewN (h : Sees w B sz v n xs) (k : Nat) : Sees (w.drewN k) B sz v n xs := h
/-- A row of the call's own is seen. -/
theorem Sees.own {base : Nat} {e : TypeId} (h : w.ownsRow base e sz v n xs) : Sees w w.heap.size sz v n xs := by
  refine ⟨h.1, ?_⟩
  rcases h.2 with ⟨rfl, rfl⟩ | ⟨g, cap, cur, rfl, _, hg, hn, _, _, _⟩
  · exact ⟨none, 0, rfl, Nat.le_refl _, fun h0 => absurd h0 (Nat.lt_irrefl _)⟩
  · refine ⟨_, cap, rfl, hn, fun _ => ⟨g, 0, rfl, (Array.getElem?_eq_some_iff.1 hg).1, fun j hj => ?_⟩⟩
    rw [Nat.zero_add]
    exact h.cellAt j hj
end

/-- The first k elements. -/
theorem Sees.cut {w : World} {B sz n k c : Nat} {A : Option Addr} {xs : List Value} (h : Sees w B sz (.slice A n c) n xs) (hk : k ≤ n) : Sees w B sz (.slice A k c) k (xs.take (k * sz)) := by
  obtain ⟨hl, A', c', e, hc, hs⟩ := h
  cases e
  have hle : k * sz ≤ n * sz := Nat.mul_le_mul_right _ hk
  refine ⟨by rw [List.length_take, hl]; omega, A, c, rfl, by omega, fun h0 => ?_⟩
  obtain ⟨b, off, hA, hb, hx⟩ := hs (by omega)
  exact ⟨b, off, hA, hb, fun j hj => (hx j (by omega)).trans (by rw [List.getElem?_take_of_lt hj])⟩

/-- A slice of ints: its numbers are zs. -/
def SeesI (w : World) (B : Nat) (v : Value) (zs : List Int) : Prop := Sees w B 1 v zs.length (zs.map (Value.int .i64))

section
variable {w w' : World} {B B' : Nat} {v : Value} {zs : List Int}
theorem SeesI.below (h : SeesI w B v zs) (hb : Below B w w') : SeesI w' B v zs := Sees.below h hb
theorem SeesI.more (h : SeesI w B v zs) (hB : B ≤ B') : SeesI w B' v zs := Sees.more h hB
theorem SeesI.drewN (h : SeesI w B v zs) (k : Nat) : SeesI (w.drewN k) B v zs := Sees.drewN h k
theorem SeesI.own {base : Nat} {e : TypeId} (h : w.ownsRow base e 1 v zs.length (zs.map (Value.int .i64))) : SeesI w w.heap.size v zs := Sees.own h
/-- The first k elements; k may be more than there are. -/
theorem SeesI.cut {A : Option Addr} {c : Nat} (h : SeesI w B (.slice A zs.length c) zs) (k : Nat) : SeesI w B (.slice A (min zs.length k) c) (zs.take k) := by
  have := Sees.cut h (Nat.min_le_left zs.length k)
  unfold SeesI
  rw [List.length_take, Nat.min_comm k]
  rw [Nat.mul_one] at this
  rw [← List.map_take] at this
  rcases Nat.le_total zs.length k with hk | hk
  · rw [Nat.min_eq_left hk] at this ⊢
    rw [List.take_of_length_le hk]
    rw [List.take_of_length_le (Nat.le_refl _)] at this
    exact this
  · rw [Nat.min_eq_right hk] at this ⊢
    exact this
/-- Its form; where there is an element, its cells. -/
theorem SeesI.form (h : SeesI w B v zs) : ∃ A c, v = .slice A zs.length c ∧ zs.length ≤ c ∧
    (0 < zs.length → ∃ b off, A = some ⟨b, off, none⟩ ∧ b < B ∧ ∀ j, j < zs.length → w.cell? ⟨b, off + j, none⟩ = some (.int .i64 (zs[j]?.getD 0))) := by
  obtain ⟨_, A, c, e, hc, hs⟩ := h
  refine ⟨A, c, e, hc, fun h0 => ?_⟩
  obtain ⟨b, off, hA, hb, hx⟩ := hs h0
  refine ⟨b, off, hA, hb, fun j hj => (hx j (by omega)).trans ?_⟩
  rw [List.getElem?_map, List.getElem?_eq_getElem hj]
  rfl
end

theorem own_int {w : World} {base g c : Nat} {e : TypeId} {zs : List Int} (h : w.ownsRow base e 1 (.slice (some ⟨g, 0, none⟩) zs.length c) zs.length (zs.map (Value.int .i64))) (k : Nat) (hk : k < zs.length) : w.cell? ⟨g, k, none⟩ = some (.int .i64 (zs[k]?.getD 0)) := by
  rw [h.cellAt k (by omega), List.getElem?_map, List.getElem?_eq_getElem hk]
  rfl

theorem int_cell (zs : List Int) : ∀ u ∈ zs.map (Value.int .i64), u.oneCell' = true := by
  intro u hu
  obtain ⟨x, _, rfl⟩ := List.mem_map.1 hu
  rfl

theorem take_snoc_getD (zs : List Int) {k : Nat} (h : k < zs.length) : zs.take (k + 1) = zs.take k ++ [zs[k]?.getD 0] := by
  rw [List.take_succ_eq_append_getElem h, List.getElem?_eq_getElem h]; rfl

/-- All old cells and marks read as before. -/
theorem bcell {W w1 : World} (hb : Below W.heap.size W w1) : (∀ b o, b < W.heap.size → w1.cell? ⟨b, o, none⟩ = W.cell? ⟨b, o, none⟩) ∧ (∀ b o, b < W.heap.size → w1.frozen? ⟨b, o, none⟩ = W.frozen? ⟨b, o, none⟩) :=
  ⟨fun b o h => hb.cell (p := ⟨b, o, none⟩) h, fun b o h => hb.frozen (p := ⟨b, o, none⟩) h⟩

theorem below_drewN {B : Nat} {a w : World} (h : Below B a w) (n : Nat) : Below B a (w.drewN n) := ⟨h.os, h.tape, h.output, h.size, h.block⟩

theorem own_form {w : World} {base sz n : Nat} {e : TypeId} {v : Value} {xs : List Value} (h : w.ownsRow base e sz v n xs) : ∃ A c, v = .slice A n c ∧ n ≤ c := by
  rcases h.2 with ⟨rfl, rfl⟩ | ⟨g, cap, cur, rfl, _, _, hn, _⟩
  · exact ⟨none, 0, rfl, Nat.le_refl _⟩
  · exact ⟨_, cap, rfl, hn⟩

theorem own_isNone {w : World} {base sz n c : Nat} {e : TypeId} {A : Option Addr} {xs : List Value} (h : w.ownsRow base e sz (.slice A n c) n xs) : A.isNone = true ↔ Value.slice A n c = .slice none 0 0 := by
  rcases h.2 with ⟨e1, _⟩ | ⟨g, cap, cur, e1, _⟩
  · cases e1; simp
  · cases e1; simp

theorem own_some {w : World} {base sz n : Nat} {e : TypeId} {v : Value} {xs : List Value} (h : w.ownsRow base e sz v (0 + n) xs) (hne : v ≠ .slice none 0 0) : ∃ g c, v = .slice (some ⟨g, 0, none⟩) n c := by
  rcases h.2 with ⟨e1, _⟩ | ⟨g, cap, cur, e1, _⟩
  · exact absurd e1 hne
  · exact ⟨g, cap, by rw [e1, Nat.zero_add]⟩

theorem own_pos {w : World} {base sz n : Nat} {e : TypeId} {v : Value} {xs : List Value} (h : w.ownsRow base e sz v n xs) (hn : 0 < n) : ∃ g c, v = .slice (some ⟨g, 0, none⟩) n c := by
  rcases h.2 with ⟨_, e1⟩ | ⟨g, cap, cur, e1, _⟩
  · omega
  · exact ⟨g, cap, e1⟩

theorem own_base {w : World} {base base' sz n : Nat} {e : TypeId} {v : Value} {xs : List Value} (h : w.ownsRow base e sz v n xs) (hb : base' ≤ base) : w.ownsRow base' e sz v n xs := by
  refine ⟨h.1, ?_⟩
  rcases h.2 with h0 | ⟨g, cap, cur, e1, hg, rest⟩
  · exact .inl h0
  · exact .inr ⟨g, cap, cur, e1, Nat.le_trans hb hg, rest⟩

theorem below_own {a w w1 : World} {B base sz n : Nat} {e : TypeId} {v : Value} {xs : List Value} (h : Below B a w) (hown : w.ownsRow base e sz v n xs) (hg : w.grownBy w1 v.ownBlock) (hB : B ≤ base) (hs : B ≤ w.heap.size) : Below B a w1 :=
  h.grown hg hs fun k hk => Nat.le_trans hB (hown.lt k hk).1

theorem box_below {W W' : World} {n₀ B : Nat} {t : TypeId} {v : Value} (h : Boxed W B t v) (hb : Below n₀ W W') (hB : B < n₀) : Boxed W' B t v := (hb.block B hB).trans h

/-- A new row of no elements ('[]T{}'), and what is laid behind it. -/
theorem own_empty (w : World) (base sz : Nat) (e : TypeId) (h : base ≤ w.heap.size) : (w.alloc (.cells #[] e)).ownsRow base e sz (.slice (some ⟨w.heap.size, 0, none⟩) 0 0) 0 [] :=
  World.ownsRow_lit w #[] 0 h (Nat.zero_le _) (by simp)

/-! ### append onto a row of the call's own, of whatever is seen -/
section
variable {P : Program} (w : World)

theorem run_append_nothing (base : Nat) (t ty e : TypeId) (i : TypeInfo) (size : Nat) (ht : P.underlying t = some (.slice e)) (hi : P.info? e = some i)
    (v : Value) (n : Nat) (xs : List Value) (hown : w.ownsRow base e size v n xs) (c : Nat) : (Builtin.append_ #[t, t] ty #[v, .slice none 0 c]).run P w = .ok v w := by
  rcases hown.2 with ⟨rfl, rfl⟩ | ⟨g, cap, cur, rfl, _, _, hnc, _⟩
  · simp [Builtin.append_, run_underlying ht, sizeOf, typeInfo, hi, Builtin.lenOf, Builtin.firstCells]
  · simp [Builtin.append_, run_underlying ht, sizeOf, typeInfo, hi, Builtin.lenOf, Builtin.firstCells, hnc, storeCells]

theorem run_append_sees (base : Nat) (t ty e : TypeId) (i : TypeInfo) (z : Value) (size bytes : Nat) (ht : P.underlying t = some (.slice e)) (hi : P.info? e = some i) (hz : i.zero = some z)
    (hsize : i.size = size) (hby : i.bytes = bytes) (hzs : z.cells.size = size) (hsz : 0 < size)
    (v : Value) (n : Nat) (xs : List Value) (hown : w.ownsRow base e size v n xs)
    (B : Nat) (sv : Value) (m : Nat) (news : List Value) (hs : Sees w B size sv m news) (h1 : ∀ u ∈ news, u.oneCell' = true)
    (h63 : n + m ≤ maxLen) (hbytes : (n + m) * bytes ≤ 140737488355328) (hbase : base ≤ w.heap.size) :
    ∃ v' w', (Builtin.append_ #[t, t] ty #[v, sv]).run P w = .ok v' w' ∧ w'.ownsRow base e size v' (n + m) (xs ++ news) ∧ w.grownBy w' v.ownBlock ∧
      (v' = .slice none 0 0 ↔ v = .slice none 0 0 ∧ m = 0) ∧ (v'.ownBlock = v.ownBlock ∨ v'.ownBlock = some w.heap.size) := by
  obtain ⟨hl, A, c, rfl, _, hc⟩ := hs
  rcases A with _ | ad
  · have hm : m = 0 := by
      rcases Nat.eq_zero_or_pos m with h0 | h0
      · exact h0
      · obtain ⟨b, off, h, _⟩ := hc h0
        cases h
    subst hm
    obtain rfl : news = [] := List.eq_nil_of_length_eq_zero (by simpa using hl)
    exact ⟨v, w, run_append_nothing w base t ty e i size ht hi v n xs hown c, by simpa using hown, World.grownBy.refl w _, by simp, .inl rfl⟩
  · have hcells : ∀ j u, news[j]? = some u → w.cell? (ad.add j) = some u := by
      intro j u hu
      have hj : j < news.length := (List.getElem?_eq_some_iff.1 hu).1
      obtain ⟨b, off, h, _, hx⟩ := hc (by rcases Nat.eq_zero_or_pos m with h0 | h0; · rw [h0] at hl; omega
                                          · exact h0)
      injection h with h
      subst h
      rw [Addr.add_lit, hx j (by omega), hu]
    exact run_append_own_at (P := P) w base t ty e i z size bytes ht hi hz hsize hby hzs hsz v n xs hown ad m c news hl hcells h1 h63 hbytes hbase

theorem wp_append_sees {o : Oper} {a : Act} {K : Act → World → Prop} {Q : Exit → Act → World → Prop} (s x : Operand) (t : TypeId)
    (ho : o.op = .call { callee := .builtin .append, args := #[s, x], argTypes := #[t, t] })
    (base : Nat) (e : TypeId) (i : TypeInfo) (z : Value) (size bytes : Nat) (ht : P.underlying t = some (.slice e)) (hi : P.info? e = some i) (hz : i.zero = some z)
    (hsize : i.size = size) (hby : i.bytes = bytes) (hzs : z.cells.size = size) (hsz : 0 < size)
    (v : Value) (n : Nat) (xs : List Value) (hv : a.eval s = v) (hown : w.ownsRow base e size v n xs)
    (B : Nat) (sv : Value) (m : Nat) (news : List Value) (hx : a.eval x = sv) (hs : Sees w B size sv m news) (h1 : ∀ u ∈ news, u.oneCell' = true)
    (h63 : n + m ≤ maxLen) (hbytes : (n + m) * bytes ≤ 140737488355328) (hbase : base ≤ w.heap.size)
    (h : ∀ v' w', w'.ownsRow base e size v' (n + m) (xs ++ news) → w.grownBy w' v.ownBlock → (v' = .slice none 0 0 ↔ v = .slice none 0 0 ∧ m = 0) → (v'.ownBlock = v.ownBlock ∨ v'.ownBlock = some w.heap.size) → K (a.put o.dst v') w') : o.wp P a w K Q := by
  obtain ⟨v', w', hrun, h2, h3, h4, h5⟩ := run_append_sees (P := P) w base t o.type e i z size bytes ht hi hz hsize hby hzs hsz v n xs hown B sv m news hs h1 h63 hbytes hbase
  unfold Oper.wp execOp
  simp only [ho, resolve, invoke, builtin, Sem.run_bind, Sem.run_pure, Result.andThen_ok, List.map_toArray, List.map_cons, List.map_nil, hv, hx, hrun]
  exact h v' w' h2 h3 h4 h5

/-- In a plain walk. -/
theorem wpList_append_sees {ops : Array Oper} {rest : List Oper} {o : Oper} {a : Act} {Q : Exit → Act → World → Prop} (hgd : o.guard = none) (s x : Operand) (t : TypeId)
    (ho : o.op = .call { callee := .builtin .append, args := #[s, x], argTypes := #[t, t] })
    (base : Nat) (e : TypeId) (i : TypeInfo) (z : Value) (size bytes : Nat) (ht : P.underlying t = some (.slice e)) (hi : P.info? e = some i) (hz : i.zero = some z)
    (hsize : i.size = size) (hby : i.bytes = bytes) (hzs : z.cells.size = size) (hsz : 0 < size)
    (v : Value) (n : Nat) (xs : List Value) (hv : a.eval s = v) (hown : w.ownsRow base e size v n xs)
    (B : Nat) (sv : Value) (m : Nat) (news : List Value) (hx : a.eval x = sv) (hs : Sees w B size sv m news) (h1 : ∀ u ∈ news, u.oneCell' = true)
    (h63 : n + m ≤ maxLen) (hbytes : (n + m) * bytes ≤ 140737488355328) (hbase : base ≤ w.heap.size)
    (h : ∀ v' w', w'.ownsRow base e size v' (n + m) (xs ++ news) → w.grownBy w' v.ownBlock → (v' = .slice none 0 0 ↔ v = .slice none 0 0 ∧ m = 0) → (v'.ownBlock = v.ownBlock ∨ v'.ownBlock = some w.heap.size) → wpList P ops Q rest (a.put o.dst v') w') : wpList P ops Q (o :: rest) a w :=
  wpList_plain hgd fun _ hK => wp_append_sees w s x t ho base e i z size bytes ht hi hz hsize hby hzs hsz v n xs hv hown B sv m news hx hs h1 h63 hbytes hbase fun v' w' h2 h3 h4 h5 => hK _ _ (h v' w' h2 h3 h4 h5)

/-- In a fenced walk. -/
theorem wpListIn_append_sees {F : Fence} {nF : Nat} {ops : Array Oper} {rest : List Oper} {o : Oper} {a : Act} {Q : Exit → Act → World → Prop} (hgd : o.guard = none) (s x : Operand) (t : TypeId)
    (ho : o.op = .call { callee := .builtin .append, args := #[s, x], argTypes := #[t, t] })
    (base : Nat) (e : TypeId) (i : TypeInfo) (z : Value) (size bytes : Nat) (ht : P.underlying t = some (.slice e)) (hi : P.info? e = some i) (hz : i.zero = some z)
    (hsize : i.size = size) (hby : i.bytes = bytes) (hzs : z.cells.size = size) (hsz : 0 < size)
    (v : Value) (n : Nat) (xs : List Value) (hv : a.eval s = v) (hown : w.ownsRow base e size v n xs)
    (B : Nat) (sv : Value) (m : Nat) (news : List Value) (hx : a.eval x = sv) (hs : Sees w B size sv m news) (h1 : ∀ u ∈ news, u.oneCell' = true)
    (h63 : n + m ≤ maxLen) (hbytes : (n + m) * bytes ≤ 140737488355328) (hbase : base ≤ w.heap.size)
    (h : ∀ v' w', w'.ownsRow base e size v' (n + m) (xs ++ news) → w.grownBy w' v.ownBlock → (v' = .slice none 0 0 ↔ v = .slice none 0 0 ∧ m = 0) → (v'.ownBlock = v.ownBlock ∨ v'.ownBlock = some w.heap.size) → wpListIn F nF P ops Q rest (a.put o.dst v') w') : wpListIn F nF P ops Q (o :: rest) a w := by
  refine wpListIn_plain hgd fun K hK' => ?_
  obtain ⟨v', w', hrun, h2, h3, h4, h5⟩ := run_append_sees (P := P) w base t o.type e i z size bytes ht hi hz hsize hby hzs hsz v n xs hown B sv m news hs h1 h63 hbytes hbase
  unfold Oper.wpIn
  refine ⟨?_, ?_⟩
  · simp [Oper.about, ho, resolve, Target.leads, Sem.run_pure]
  · rw [Oper.semAt_plain F _ _ (by rw [ho]; intro c hc'; cases hc')]
    unfold execOp
    simp only [ho, resolve, invoke, builtin, Sem.run_bind, Sem.run_pure, Result.andThen_ok, List.map_toArray, List.map_cons, List.map_nil, hv, hx, hrun]
    exact hK' _ _ (h v' w' h2 h3 h4 h5)
end

/-- int's row of the types' table. -/
theorem Try.infoInt : (Try.prog.info? 3).map (fun i => (i.zero, i.size, i.bytes)) = some (some (.int .i64 0), 1, 8) := by kernel_rfl

end Go.Proofs.Ytlibakmllogcdaa
