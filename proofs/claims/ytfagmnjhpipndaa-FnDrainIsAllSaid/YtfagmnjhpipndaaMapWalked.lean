/-
  Plain laws on walks over a part of a map. No statement is proved here.
-/
import Derived.Test.YtfagmnjhpipndaaMapKeys
import Derived.Test.YtfagmnjhpipndaaRange
namespace Go.Proofs.Ytfagmnjhpipndaa
open Go.RowKit Go.Shelf Go.Maps

theorem nodup_le {α : Type} [DecidableEq α] : ∀ (xs ys : List α), xs.Nodup → (∀ x ∈ xs, x ∈ ys) → xs.length ≤ ys.length
  | [], _, _, _ => Nat.zero_le _
  | x :: xs, ys, hn, hs => by
    rw [List.nodup_cons] at hn
    have hx := hs x List.mem_cons_self
    have h1 := nodup_le xs (ys.erase x) hn.2 (fun y hy => (List.mem_erase_of_ne (fun e : y = x => hn.1 (by rw [← e]; exact hy))).2 (hs y (List.mem_cons_of_mem _ hy)))
    rw [List.length_erase_of_mem hx] at h1
    have := List.length_pos_of_mem hx
    simp only [List.length_cons]
    omega
theorem part_le {xs ps : List (Int × Int)} (h : PartOf xs (mkm ps)) : xs.length ≤ (mapU ps).length :=
  nodup_le xs (mapU ps) (nodup_of_keys h.1) (fun p hp => ((mapU_graph ps).2 p.1 p.2).2 (h.2 p hp))
theorem part_dropLast {xs : List (Int × Int)} {f : FMap} (h : PartOf xs f) : PartOf xs.dropLast f := by
  refine ⟨?_, fun p hp => h.2 p (List.dropLast_subset xs hp)⟩
  rw [List.map_dropLast]
  exact h.1.sublist (List.dropLast_sublist _)
/-- A walk that went over all. -/
theorem part_whole {xs ps : List (Int × Int)} {most : Int} (h : SeqOf xs (mkm ps)) (hl : xs.length ≤ most.toNat) : PartOf xs (mkm ps) ∧ xs.length = min (mapU ps).length most.toNat := by
  have := seq_length h
  exact ⟨h.part, by omega⟩
/-- A walk that was left. -/
theorem part_left {xs ps : List (Int × Int)} {most : Int} (h : PartOf xs (mkm ps)) (h1 : most ≤ (xs.dropLast.length : Int)) (h2 : xs.dropLast.length ≤ most.toNat) : PartOf xs.dropLast (mkm ps) ∧ xs.dropLast.length = min (mapU ps).length most.toNat := by
  have := part_le h
  have hd : xs.dropLast.length ≤ xs.length := by rw [List.length_dropLast]; omega
  exact ⟨part_dropLast h, by omega⟩

/-- What is told of a block that lay there before the loop abides. -/
theorem ownFrom_block {β : Type} {b B : Nat} {o : Obj} (hb : b < B) : OwnFrom B (fun (_ : β) W => W.heap[b]? = some o) :=
  fun _ _ _ _ hs hg hr => (hg.block b (Array.getElem?_eq_some_iff.1 hs).1 (fun e => by have := (hr b e.symm).1; omega)).trans hs
theorem keepsMap_others {b : Nat} {W W' : World} {es : Array MapEntry} {c : Nat} (hs : W.heap.size ≤ W'.heap.size) (hk : KeepsOthers W W') (hm : W.heap[b]? = some (.map es c)) : KeepsMap b W W' :=
  ⟨hs, (hk.same b _ hm rfl).trans hm.symm, fun k _ _ _ _ h => hk.same k _ h rfl⟩

end Go.Proofs.Ytfagmnjhpipndaa
