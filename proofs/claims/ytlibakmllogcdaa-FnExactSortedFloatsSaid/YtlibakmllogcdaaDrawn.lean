/-
  append as one step of a region that draws its order; the hind part of a slice that is seen. No statement is proved here.
-/
import Derived.Test.YtlibakmllogcdaaBase
import Derived.Deep.RegionHeld3
import Derived.Deep.RegionLawGrows
namespace Go.Proofs.Ytlibakmllogcdaa
open Go.RowKit Go.Shelf

section
variable {P : Program} (w : World)
theorem step_append_sees {ops : Array Oper} {o : Oper} {a : Act} {K : Act → World → Prop} {Q : Exit → Act → World → Prop} {E : Prop} (hgd : o.guard = none) (s x : Operand) (t : TypeId)
    (ho : o.op = .call { callee := .builtin .append, args := #[s, x], argTypes := #[t, t] })
    (base : Nat) (e : TypeId) (i : TypeInfo) (z : Value) (size bytes : Nat) (ht : P.underlying t = some (.slice e)) (hi : P.info? e = some i) (hz : i.zero = some z)
    (hsize : i.size = size) (hby : i.bytes = bytes) (hzs : z.cells.size = size) (hsz : 0 < size)
    (v : Value) (n : Nat) (xs : List Value) (hv : a.eval s = v) (hown : w.ownsRow base e size v n xs)
    (B : Nat) (sv : Value) (m : Nat) (news : List Value) (hx : a.eval x = sv) (hs : Sees w B size sv m news) (h1 : ∀ u ∈ news, u.oneCell' = true)
    (h63 : n + m ≤ maxLen) (hbytes : (n + m) * bytes ≤ 140737488355328) (hbase : base ≤ w.heap.size)
    (h : ∀ v' w', w'.ownsRow base e size v' (n + m) (xs ++ news) → w.grownBy w' v.ownBlock → K (a.put o.dst v') w') : if Region.wanted o (yielded ops a.tmps) = true then Oper.wp P o a w K Q else E := by
  have hw : Region.wanted o (yielded ops a.tmps) = true := by simp [Region.wanted, hgd]
  rw [if_pos hw]
  exact wp_append_sees w s x t ho base e i z size bytes ht hi hz hsize hby hzs hsz v n xs hv hown B sv m news hx hs h1 h63 hbytes hbase fun v' w' h2 h3 _ _ => h v' w' h2 h3
end

/-- The elements from the k-th on. -/
theorem Sees.drop {w : World} {B sz n k c g off : Nat} {xs : List Value} (h : Sees w B sz (.slice (some ⟨g, off, none⟩) n c) n xs) (hk : k ≤ n) (A : Option Addr) (hA : k < n → A = some ⟨g, off + k * sz, none⟩) (c' : Nat) (hc' : n - k ≤ c') :
    Sees w B sz (.slice A (n - k) c') (n - k) (xs.drop (k * sz)) := by
  obtain ⟨hl, A', c0, e, hc, hs⟩ := h
  cases e
  have hm : n * sz = k * sz + (n - k) * sz := by rw [← Nat.add_mul, Nat.add_sub_of_le hk]
  refine ⟨by rw [List.length_drop, hl]; omega, A, c', rfl, hc', fun h0 => ?_⟩
  have h0' : 0 < n := Nat.lt_of_lt_of_le h0 (Nat.sub_le n k)
  obtain ⟨b, o, hA', hb, hx⟩ := hs h0'
  injection hA' with hA'
  cases hA'
  refine ⟨g, off + k * sz, hA (Nat.lt_of_sub_pos h0), hb, fun j hj => ?_⟩
  rw [List.getElem?_drop, Nat.add_assoc]
  exact hx (k * sz + j) (by omega)

/-! ### what is kept in such a region: a cell, and all that lay -/
section
variable {H : Nat} {W w' w1 : World} {p : Addr} {z : Value}
theorem below_drew (h : Below H W w') : Below H W w'.drew := ⟨h.os, h.tape, h.output, h.size, h.block⟩
theorem heldD (h : w'.cell? p = some z ∧ Below H W w') : w'.drew.cell? p = some z ∧ Below H W w'.drew := ⟨h.1, below_drew h.2⟩
theorem heldA (h : w'.cell? p = some z ∧ Below H W w') (hH : W.heap.size = H) (hp : p.block < H) (o : Obj) : (w'.alloc o).cell? p = some z ∧ Below H W (w'.alloc o) := by
  subst hH
  exact ⟨(World.cell?_alloc_lt w' o p (Nat.lt_of_lt_of_le hp h.2.size)).trans h.1, h.2.alloc h.2.size o⟩
theorem heldG (h : w'.cell? p = some z ∧ Below H W w') (hH : W.heap.size = H) (hp : p.block < H) {row : Option Nat} (hg : w'.grownBy w1 row) (hr : ∀ g, row = some g → H ≤ g) : w1.cell? p = some z ∧ Below H W w1 := by
  subst hH
  exact ⟨(World.cell?_of_block (hg.block p.block (Nat.lt_of_lt_of_le hp h.2.size) (fun e => by have := hr _ e.symm; omega))).trans h.1, h.2.grown hg h.2.size hr⟩
end

section
variable {H : Nat} {W w' w1 : World} {p p2 : Addr} {z z2 : Value}
theorem heldD2 (h : w'.cell? p = some z ∧ w'.cell? p2 = some z2 ∧ Below H W w') : w'.drew.cell? p = some z ∧ w'.drew.cell? p2 = some z2 ∧ Below H W w'.drew := ⟨h.1, h.2.1, below_drew h.2.2⟩
theorem heldA2 (h : w'.cell? p = some z ∧ w'.cell? p2 = some z2 ∧ Below H W w') (hH : W.heap.size = H) (hp : p.block < H) (hp2 : p2.block < H) (o : Obj) : (w'.alloc o).cell? p = some z ∧ (w'.alloc o).cell? p2 = some z2 ∧ Below H W (w'.alloc o) :=
  ⟨(heldA ⟨h.1, h.2.2⟩ hH hp o).1, heldA ⟨h.2.1, h.2.2⟩ hH hp2 o⟩
theorem heldG2 (h : w'.cell? p = some z ∧ w'.cell? p2 = some z2 ∧ Below H W w') (hH : W.heap.size = H) (hp : p.block < H) (hp2 : p2.block < H) {row : Option Nat} (hg : w'.grownBy w1 row) (hr : ∀ g, row = some g → H ≤ g) : w1.cell? p = some z ∧ w1.cell? p2 = some z2 ∧ Below H W w1 :=
  ⟨(heldG ⟨h.1, h.2.2⟩ hH hp hg hr).1, heldG ⟨h.2.1, h.2.2⟩ hH hp2 hg hr⟩
end

/-- The two literals of 'append(append(append([]T{}, ..), x), ..)', in whichever order they are laid. -/
theorem ins_rows (W : World) (e : TypeId) (sz : Nat) (one : Array Value) (h1 : one.size = 1 * sz) :
    (W.alloc (.cells #[] e)).drew.ownsRow W.heap.size e sz (.slice (some ⟨W.heap.size, 0, none⟩) 0 0) 0 [] ∧
    (((W.alloc (.cells #[] e)).alloc (.cells one e)).drew.ownsRow W.heap.size e sz (.slice (some ⟨W.heap.size, 0, none⟩) 0 0) 0 [] ∧
     ((W.alloc (.cells #[] e)).alloc (.cells one e)).drew.ownsRow W.heap.size e sz (.slice (some ⟨W.heap.size + 1, 0, none⟩) 1 1) 1 one.toList) ∧
    (((W.alloc (.cells one e)).alloc (.cells #[] e)).drew.ownsRow W.heap.size e sz (.slice (some ⟨W.heap.size + 1, 0, none⟩) 0 0) 0 [] ∧
     ((W.alloc (.cells one e)).alloc (.cells #[] e)).drew.ownsRow W.heap.size e sz (.slice (some ⟨W.heap.size, 0, none⟩) 1 1) 1 one.toList) := by
  have a0 := own_empty W W.heap.size sz e (Nat.le_refl _)
  have a1 := World.ownsRow_lit (base := W.heap.size) (e := e) (size := sz) W one 1 (Nat.le_refl _) (by unfold maxLen; omega) h1
  have b1 := World.ownsRow_lit (base := W.heap.size) (e := e) (size := sz) (W.alloc (.cells #[] e)) one 1 (by simp) (by unfold maxLen; omega) h1
  have c0 := own_empty (W.alloc (.cells one e)) W.heap.size sz e (by simp)
  rw [World.size_alloc] at b1 c0
  exact ⟨a0.drew, ⟨(a0.alloc _).drew, b1.drew⟩, ⟨c0.drew, (a1.alloc _).drew⟩⟩

end Go.Proofs.Ytlibakmllogcdaa
