/-
  What the functions that make a map of pairs hand back, and plain laws on it. No statement is proved here.
-/
import Derived.Test.YtfagmnjhpipndaaInsert
import Derived.Test.YtfagmnjhpipndaaToPairs
namespace Go.Proofs.Ytfagmnjhpipndaa
open Go.RowKit Go.Shelf Go.Maps

/-- The pairs of f by ascending keys, new. -/
def MapPost (w : World) (N : Nat) (f : FMap) (e : Ending) (w' : World) : Prop :=
  ∃ v ps, e = .returned v ∧ Graph ps f ∧ ps.length ≤ N ∧ w'.ownsRow w.heap.size 32 2 v ps.length (pcells ps) ∧ Below w.heap.size w w'

theorem mkm_nodup {l : List (Int × Int)} (h : (l.map (·.1)).Nodup) (k v : Int) : (k, v) ∈ l ↔ mkm l k = some v := by
  refine ⟨fun hm => ?_, mkm_mem⟩
  have h1 := mkm_some hm
  obtain ⟨v', hv'⟩ := Option.isSome_iff_exists.1 h1
  have h2 := mkm_mem hv'
  have : v = v' := by
    rw [List.nodup_iff_pairwise_ne, List.pairwise_map] at h
    rcases Decidable.em (v = v') with e | e
    · exact e
    · obtain ⟨i, hi, ei⟩ := List.getElem_of_mem hm
      obtain ⟨j, hj, ej⟩ := List.getElem_of_mem h2
      rw [List.pairwise_iff_getElem] at h
      rcases Nat.lt_trichotomy i j with hij | hij | hij
      · exact absurd (show l[i].1 = l[j].1 by rw [ei, ej]) (h i j hi hj hij)
      · subst hij; rw [ei] at ej; injection ej
      · exact absurd (show l[j].1 = l[i].1 by rw [ei, ej]) (h j i hj hi hij)
  rw [this]
  exact hv'
theorem rising_nodup {l : List (Int × Int)} (h : l.Pairwise (fun a b => a.1 < b.1)) : (l.map (·.1)).Nodup := by
  rw [List.nodup_iff_pairwise_ne, List.pairwise_map]
  exact h.imp (fun hlt => by omega)
theorem graph_rising {l : List (Int × Int)} (h : l.Pairwise (fun a b => a.1 < b.1)) : Graph l (mkm l) := ⟨h, mkm_nodup (rising_nodup h)⟩
theorem graph_turned {l : List (Int × Int)} (h : l.Pairwise (fun a b => a.1 < b.1)) : Graph l (mkm l.reverse) := by
  refine ⟨h, fun k v => ?_⟩
  rw [← mkm_nodup (by rw [List.map_reverse, List.nodup_iff_pairwise_ne, List.pairwise_reverse]; exact (List.nodup_iff_pairwise_ne.1 (rising_nodup h)).imp Ne.symm), List.mem_reverse]
theorem Graph.fits {ps qs : List (Int × Int)} (h : Graph ps (mkm qs)) (hq : Fits qs) : Fits ps := fun p hp => hq p (mkm_mem ((h.2 p.1 p.2).1 hp))
/-- A map put into another one. -/
def orm (f g : FMap) : FMap := fun k => (f k).or (g k)
theorem orm_ups {xs : List (Int × Int)} {f g : FMap} (h : SeqOf xs f) : ups g xs = orm f g := funext fun k => ups_seq h g k
theorem Graph.fits_or {ps qs rs : List (Int × Int)} (h : Graph ps (orm (mkm qs) (mkm rs))) (hq : Fits qs) (hr : Fits rs) : Fits ps := fun p hp => by
  have := (h.2 p.1 p.2).1 hp
  rcases Option.or_eq_some_iff.1 this with h1 | ⟨_, h1⟩
  · exact hq p (mkm_mem h1)
  · exact hr p (mkm_mem h1)
theorem Fits.append {ps qs : List (Int × Int)} (h : Fits ps) (k : Fits qs) : Fits (ps ++ qs) := fun p hp => (List.mem_append.1 hp).elim (h p) (k p)
theorem allOf_rising (zs : List Int) : (allOf zs).Pairwise (fun a b => a.1 < b.1) := by
  rw [List.pairwise_iff_getElem]
  intro i j hi hj hij
  rw [allOf_get, allOf_get]
  show (i : Int) < (j : Int)
  omega

/-- Whatever keeps all that lay below n₀ keeps its word as a map behind it is written. -/
theorem belowK_map {n₀ b n : Nat} (hb : n₀ ≤ b) (W W' : World) (_ : n ≤ W.heap.size) (hm : ∃ es c, W.heap[b]? = some (.map es c)) (hg : W.grownBy W' (some b)) : Below n₀ W W' := by
  obtain ⟨es, c, h⟩ := hm
  have := (Array.getElem?_eq_some_iff.1 h).1
  exact (Below.refl n₀ W).grown hg (by omega) (fun k e => by cases e; exact hb)
theorem keepsMap_map {b b' n : Nat} (hne : b' ≠ b) (hb0 : b' < n) (W W' : World) (hn : n ≤ W.heap.size) (hm : ∃ es c, W.heap[b]? = some (.map es c)) (hg : W.grownBy W' (some b)) : KeepsMap b' W W' := by
  obtain ⟨es, c, h⟩ := hm
  refine ⟨hg.size, hg.block b' (Nat.lt_of_lt_of_le hb0 hn) (fun e => hne (by injection e)), fun k m s se c' hk => ?_⟩
  have hlt := (Array.getElem?_eq_some_iff.1 hk).1
  refine (hg.block k hlt (fun e => ?_)).trans hk
  injection e with e
  subst e
  rw [h] at hk
  cases hk

end Go.Proofs.Ytfagmnjhpipndaa
