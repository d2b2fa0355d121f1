/-
  The contract of cmp.Less at float64, and what a walk of the library's sort wants at each step. No statement is proved here.
-/
import Derived.Test.YtlibakmllogcdaaFloatLaw
import Derived.Test.YtlibakmllogcdaaBase
import Derived.Shelf.SlSortCmp.Kit1
import Derived.Deep.LoopGhost
namespace Go.Proofs.Ytlibakmllogcdaa
open Go.RowKit Go.Shelf Go.Sort Go.Lib

/-- A floating-point number as it lies in memory. -/
def encF (x : Nat) : Value := .float .f64 x
theorem encF_eq (x : Nat) : encF x = .float .f64 x := rfl
theorem swF {w0 W : World} {bk off : Nat} {dk d0 : Array Nat} (h : SW encF w0 bk off dk W) (R : Row1 encF w0 bk off d0) (hs : dk.size = d0.size) (i : Nat) (hi : i < dk.size) : W.cell? ⟨bk, off + i, none⟩ = some (.float .f64 dk[i]!) := h.c1 R hs i hi

theorem storeF (x : Nat) (a : Addr) (m : Mode) (w : World) : Sem.run Try.prog (store a (.float .f64 x) m) w = stored Try.prog w a (.float .f64 x) m := run_store Try.prog w a _ m rfl
/-- cmp.isNaN at float64 -/
theorem isNaN_calls (x : Nat) (w : World) : Calls Try.prog 62 #[.float .f64 x] w fun e w' => e = .returned (.bool (nanF x)) ∧ w = w' := by
  have h : (FloatKind.f64.format.order x x != some .eq) = nanF x := by
    unfold bne
    rw [order_self]
    simp
  go_enter Try.func62, Try.ntmps62
  go_wp2
  go_ret
  exact ⟨rfl, rfl⟩

/-- cmp.Less at float64 -/
theorem lessF_calls (x y : Nat) (w : World) : Calls Try.prog 50 #[.float .f64 x, .float .f64 y] w fun e w' => e = .returned (.bool (ltF x y)) ∧ w = w' := by
  have hx := Lib.hid (isNaN_calls x w)
  have hy := Lib.hid (isNaN_calls y w)
  rw [ltF_eq]
  generalize hn : nanF x = nx at hx
  generalize nanF y = ny at hy
  clear hn
  cases nx with
  | true =>
    go_enter Try.func50, Try.ntmps50
    go_wp2_with fail
    refine hx.out.mono ?_
    rintro e w1 ⟨rfl, rfl⟩
    go_wp2_with fail
    refine hy.out.mono ?_
    rintro e w1 ⟨rfl, rfl⟩
    cases ny with
    | true =>
      go_wp2
      go_ret
      exact ⟨rfl, rfl⟩
    | false =>
      go_wp2
      go_ret
      exact ⟨rfl, rfl⟩
  | false =>
    go_enter Try.func50, Try.ntmps50
    go_wp2_with fail
    refine hx.out.mono ?_
    rintro e w1 ⟨rfl, rfl⟩
    go_wp2
    go_ret
    exact ⟨rfl, rfl⟩
theorem lessF_quiet {b : Bool} (W : World) (x y : Nat) (h : ltF x y = b) (n : Nat) : Calls Try.prog 50 #[.float .f64 x, .float .f64 y] (W.drewN n) fun e w' => e = .returned (.bool b) ∧ ∃ m, w' = W.drewN m :=
  (lessF_calls x y (W.drewN n)).mono fun _ _ ⟨he, hm⟩ => ⟨by rw [he, h], n, hm.symm⟩

/-- The row holds d, of n elements. -/
structure At (w0 : World) (bk off n : Nat) (d : Array Nat) (w : World) : Prop where
  sw : SW encF w0 bk off d w
  size : d.size = n
  row : ∃ d0, Row1 encF w0 bk off d0 ∧ d0.size = n
section
variable {w0 w : World} {bk off n : Nat} {d : Array Nat}
theorem At.cell (h : At w0 bk off n d w) (i : Nat) (hi : i < n) : w.cell? ⟨bk, off + i, none⟩ = some (.float .f64 d[i]!) := by
  obtain ⟨d0, R, hd⟩ := h.row
  exact swF h.sw R (by rw [h.size, hd]) i (by rw [h.size]; exact hi)
theorem At.frozen (h : At w0 bk off n d w) (i : Nat) (hi : i < n) : w.frozen? ⟨bk, off + i, none⟩ = false := by
  obtain ⟨d0, R, hd⟩ := h.row
  exact h.sw.f1 R (by rw [h.size, hd]) i (by rw [h.size]; exact hi)
theorem At.second (h : At w0 bk off n d w) (i j : Nat) (hi : i < n) (hj : j < n) (v : Value) : ∃ u, (w.setCell ⟨bk, off + i, none⟩ v).cell? ⟨bk, off + j, none⟩ = some u := by
  obtain ⟨d0, R, hd⟩ := h.row
  exact h.sw.c2 R (by rw [h.size, hd]) i j (by rw [h.size]; exact hi) (by rw [h.size]; exact hj) v
theorem At.swapped (h : At w0 bk off n d w) (i j : Nat) (hi : i < n) (hj : j < n) : At w0 bk off n (swp d i j) ((w.setCell ⟨bk, off + i, none⟩ (.float .f64 d[j]!)).setCell ⟨bk, off + j, none⟩ (.float .f64 d[i]!)).drew := by
  obtain ⟨d0, R, hd⟩ := h.row
  exact ⟨h.sw.swapped R i j (by rw [h.size]; exact hi) (by rw [h.size]; exact hj), (swp_size _ _ _).trans h.size, d0, R, hd⟩
theorem At.drewN (h : At w0 bk off n d w) (q : Nat) : At w0 bk off n d (w.drewN q) := ⟨h.sw.drewN q, h.size, h.row⟩
theorem At.alloc (h : At w0 bk off n d w) (o : Obj) : At w0 bk off n d (w.alloc o) := ⟨h.sw.alloc o, h.size, h.row⟩
theorem At.put (h : At w0 bk off n d w) (b o : Nat) (v : Value) (hb : w0.heap.size ≤ b) : At w0 bk off n d (w.setCell ⟨b, o, none⟩ v) := ⟨h.sw.setCell_new b o v hb, h.size, h.row⟩
theorem At.le (h : At w0 bk off n d w) : w0.heap.size ≤ w.heap.size := h.sw.le
theorem At.blk (h : At w0 bk off n d w) : bk < w0.heap.size := by obtain ⟨d0, R, _⟩ := h.row; exact R.hblk
theorem At.perm {d' : Array Nat} {w' : World} (h : At w0 bk off n d' w') (s : SW encF w0 bk off d w) (hs : d.size = n) : At w0 bk off n d w := ⟨s, hs, h.row⟩
end

end Go.Proofs.Ytlibakmllogcdaa
