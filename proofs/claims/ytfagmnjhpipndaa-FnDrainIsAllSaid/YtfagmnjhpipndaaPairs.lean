/-
  Plain words for lists of pairs in memory. No statement is proved here.
-/
import Derived.Test.YtfagmnjhpipndaaBase
namespace Go.Proofs.Ytfagmnjhpipndaa
open Go.RowKit Go.Shelf

/-- A pair of ints, each of which fits. -/
abbrev Pr : Type := { p : Int × Int // (Lit.int .i64 p.1).wf = true ∧ (Lit.int .i64 p.2).wf = true }

/-- The cells of pairs. -/
def pcells (ps : List (Int × Int)) : List Value := ps.flatMap fun p => [Value.int .i64 p.1, Value.int .i64 p.2]
theorem pcells_nil : pcells [] = [] := rfl
theorem pcells_append (ps qs : List (Int × Int)) : pcells (ps ++ qs) = pcells ps ++ pcells qs := by simp [pcells]
theorem pcells_one (p : Int × Int) : pcells [p] = [Value.int .i64 p.1, Value.int .i64 p.2] := rfl
theorem pcells_length (ps : List (Int × Int)) : (pcells ps).length = ps.length * 2 := by
  induction ps with
  | nil => rfl
  | cons p ps ih => simp only [pcells, List.flatMap_cons, List.length_append, List.length_cons, List.length_nil] at ih ⊢; omega
theorem pcells_cell (ps : List (Int × Int)) : ∀ u ∈ pcells ps, u.oneCell' = true := by
  intro u hu
  obtain ⟨p, _, hp⟩ := List.mem_flatMap.1 hu
  rcases List.mem_cons.1 hp with rfl | hp
  · rfl
  · rcases List.mem_cons.1 hp with rfl | hp
    · rfl
    · cases hp
theorem pcells_get (ps : List (Int × Int)) (k : Nat) (hk : k < ps.length) : (pcells ps)[k * 2]? = some (.int .i64 ps[k].1) ∧ (pcells ps)[k * 2 + 1]? = some (.int .i64 ps[k].2) := by
  induction ps generalizing k with
  | nil => exact absurd hk (by simp)
  | cons p ps ih =>
    cases k with
    | zero => exact ⟨rfl, rfl⟩
    | succ k =>
      have := ih k (by simpa using hk)
      have e : pcells (p :: ps) = .int .i64 p.1 :: .int .i64 p.2 :: pcells ps := rfl
      rw [e, show (k + 1) * 2 = k * 2 + 1 + 1 from by omega]
      simp only [List.getElem?_cons_succ, List.getElem_cons_succ]
      exact this
theorem pcells_take (ps : List (Int × Int)) (k : Nat) : (pcells ps).take (k * 2) = pcells (ps.take k) := by
  induction ps generalizing k with
  | nil => simp [pcells]
  | cons p ps ih =>
    cases k with
    | zero => simp [pcells]
    | succ k =>
      have e : pcells (p :: ps) = .int .i64 p.1 :: .int .i64 p.2 :: pcells ps := rfl
      rw [e, show (k + 1) * 2 = k * 2 + 1 + 1 from by omega]
      simp only [List.take_succ_cons, ih]
      rfl

/-- A slice of pairs. -/
def SeesP (w : World) (B : Nat) (v : Value) (ps : List (Int × Int)) : Prop := Sees w B 2 v ps.length (pcells ps)

section
variable {w w' : World} {B B' : Nat} {v : Value} {ps : List (Int × Int)}
theorem SeesP.below (h : SeesP w B v ps) (hb : Below B w w') : SeesP w' B v ps := Sees.below h hb
theorem SeesP.more (h : SeesP w B v ps) (hB : B ≤ B') : SeesP w B' v ps := Sees.more h hB
theorem SeesP.drewN (h : SeesP w B v ps) (k : Nat) : SeesP (w.drewN k) B v ps := Sees.drewN h k
theorem SeesP.own {base : Nat} {e : TypeId} (h : w.ownsRow base e 2 v ps.length (pcells ps)) : SeesP w w.heap.size v ps := Sees.own h
theorem SeesP.form (h : SeesP w B v ps) : ∃ A c, v = .slice A ps.length c ∧ ps.length ≤ c ∧
    (0 < ps.length → ∃ b off, A = some ⟨b, off, none⟩ ∧ b < B ∧ ∀ (j : Nat) (hj : j < ps.length), w.cell? ⟨b, off + j * 2, none⟩ = some (.int .i64 ps[j].1) ∧ w.cell? ⟨b, off + j * 2 + 1, none⟩ = some (.int .i64 ps[j].2)) := by
  obtain ⟨_, A, c, e, hc, hs⟩ := h
  refine ⟨A, c, e, hc, fun h0 => ?_⟩
  obtain ⟨b, off, hA, hb, hx⟩ := hs h0
  refine ⟨b, off, hA, hb, fun j hj => ?_⟩
  have := pcells_get ps j hj
  exact ⟨(hx (j * 2) (by omega)).trans this.1, (hx (j * 2 + 1) (by omega)).trans this.2⟩
end

/-- Indices with their elements. -/
def allOf (zs : List Int) : List (Int × Int) := zs.mapIdx fun i z => ((i : Int), z)
theorem allOf_length (zs : List Int) : (allOf zs).length = zs.length := by simp [allOf]
theorem allOf_get (zs : List Int) (k : Nat) (hk : k < (allOf zs).length) : (allOf zs)[k] = ((k : Int), zs[k]'(by simpa [allOf] using hk)) := by simp [allOf]
theorem take_snoc {α : Type} (l : List α) {k : Nat} (h : k < l.length) : l.take (k + 1) = l.take k ++ [l[k]] := List.take_succ_eq_append_getElem h

theorem take_of_cut' {α β : Type} (f : α → β) {pre : List α} {ps : List β} {most : Int} (hp : pre.map f <+: ps) (h1 : most ≤ (pre.dropLast.length : Int)) (h2 : pre.dropLast.length ≤ most.toNat) : pre.dropLast.map f = ps.take most.toNat := by
  have e : pre.dropLast.map f <+: ps := by
    rw [List.map_dropLast]
    exact (List.dropLast_prefix _).trans hp
  have hl : most.toNat = (pre.dropLast.map f).length := by rw [List.length_map]; omega
  rw [hl]
  exact List.prefix_iff_eq_take.1 e

/-- Pair's row of the types' table. -/
theorem Try.infoPair : (Try.prog.info? 32).map (fun i => (i.zero, i.size, i.bytes)) = some (some (.agg #[.int .i64 0, .int .i64 0]), 2, 16) := by kernel_rfl

/-- Two new cells. -/
theorem pair_new (w : World) (a b : Value) (t : TypeId) : ∀ (j : Nat) (u : Value), [a, b][j]? = some u → (w.alloc (.cells #[a, b] t)).cell? ((⟨w.heap.size, 0, none⟩ : Addr).add j) = some u := by
  intro j u hu
  have hc : ∀ k, (w.alloc (.cells #[a, b] t)).cell? ⟨w.heap.size, k, none⟩ = #[a, b][k]? := by
    intro k
    have hn : (w.alloc (.cells #[a, b] t)).heap[w.heap.size]? = some (.cells #[a, b] t (0, 0)) := World.alloc_heap_new w _
    unfold World.cell?
    rw [hn]
    simp
  rw [Addr.add_lit, Nat.zero_add, hc]
  simpa using hu

theorem pair_new_at (w : World) (a b : Value) (t : TypeId) (g : Nat) (hg : w.heap.size = g) : ∀ (j : Nat) (u : Value), [a, b][j]? = some u → (w.alloc (.cells #[a, b] t)).cell? ((⟨g, 0, none⟩ : Addr).add j) = some u := by
  subst hg; exact pair_new w a b t

/-- Another box than the one that is written, behind an append. -/
theorem box_other {W w1 : World} {B B' : Nat} {t e : TypeId} {u v v' : Value} {n₀ size k : Nat} {xs : List Value} {tmp : Obj} (h : Boxed W B' t u) (hte : t ≠ e) (hrow : W.ownsRow n₀ e size v k xs)
    (hgrow : (W.alloc tmp).grownBy w1 v.ownBlock) (hne : B' ≠ B) : Boxed (w1.setCell ⟨B, 0, none⟩ v') B' t u :=
  ((h.alloc tmp).kept hgrow (h.not_row hte hrow)).kept (grownBy_setCell' w1 B v') (fun e' => hne (by injection e'))

end Go.Proofs.Ytfagmnjhpipndaa
