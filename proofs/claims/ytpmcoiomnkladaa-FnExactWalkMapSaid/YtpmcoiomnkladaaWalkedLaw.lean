/-
  Plain laws on the keys and values of a part of a map. No statement is proved here.
-/
import Derived.Test.YtpmcoiomnkladaaMapWalked
namespace Go.Proofs.Ytpmcoiomnkladaa

theorem part_mem {xs ps : List (Int × Int)} (h : PartOf xs (mkm ps)) : ∀ p ∈ xs, p ∈ mapU ps := fun p hp => ((mapU_graph ps).2 p.1 p.2).2 (h.2 p hp)
theorem walked_keys {xs ps : List (Int × Int)} (h : PartOf xs (mkm ps)) : (∀ u ∈ upw (xs.map (·.1)), u ∈ keysU ps) ∧ (upw (xs.map (·.1))).Pairwise (· < ·) := by
  refine ⟨fun u hu => ?_, ?_⟩
  · obtain ⟨p, hp, rfl⟩ := List.mem_map.1 ((upw_perm _).mem_iff.1 hu)
    rw [keysU_eq]
    exact List.mem_map_of_mem (part_mem h p hp)
  · have hn : (upw (xs.map (·.1))).Nodup := (upw_perm _).nodup_iff.2 h.1
    have hr := upw_rising (xs.map (·.1))
    rw [List.nodup_iff_pairwise_ne] at hn
    exact (hr.and hn).imp (fun ⟨a, b⟩ => by omega)
theorem count_sub (f : Int × Int → Int) (u : Int) : ∀ (xs ys : List (Int × Int)), xs.Nodup → (∀ x ∈ xs, x ∈ ys) → (xs.map f).count u ≤ (ys.map f).count u
  | [], _, _, _ => Nat.zero_le _
  | x :: xs, ys, hn, hs => by
    rw [List.nodup_cons] at hn
    have hx := hs x List.mem_cons_self
    have h1 := count_sub f u xs (ys.erase x) hn.2 (fun y hy => (List.mem_erase_of_ne (fun e : y = x => hn.1 (by rw [← e]; exact hy))).2 (hs y (List.mem_cons_of_mem _ hy)))
    have h2 := (List.Perm.map f (List.perm_cons_erase hx)).count_eq u
    rw [h2, List.map_cons, List.map_cons, List.count_cons, List.count_cons]
    omega
theorem walked_vals {xs ps : List (Int × Int)} (h : PartOf xs (mkm ps)) : (∀ u, (upw (xs.map (·.2))).count u ≤ (valsU ps).count u) ∧ (upw (xs.map (·.2))).Pairwise (· ≤ ·) := by
  refine ⟨fun u => ?_, upw_rising _⟩
  rw [valsU_eq, (upw_perm _).count_eq, (upw_perm _).count_eq]
  exact count_sub _ u xs _ (nodup_of_keys h.1) (part_mem h)
/-- The one ahead is less. -/
theorem rise_at {us : List Int} (h : us.Pairwise (· < ·)) {k : Nat} (hk : k < us.length) (h0 : 0 < k) : us[k - 1]?.getD 0 < us[k]?.getD 0 := by
  rw [List.getElem?_eq_getElem hk, List.getElem?_eq_getElem (by omega : k - 1 < us.length)]
  exact List.pairwise_iff_getElem.1 h (k - 1) k (by omega) hk (by omega)
theorem rise_at_le {us : List Int} (h : us.Pairwise (· ≤ ·)) {k : Nat} (hk : k < us.length) (h0 : 0 < k) : us[k - 1]?.getD 0 ≤ us[k]?.getD 0 := by
  rw [List.getElem?_eq_getElem hk, List.getElem?_eq_getElem (by omega : k - 1 < us.length)]
  exact List.pairwise_iff_getElem.1 h (k - 1) k (by omega) hk (by omega)
theorem getD_mem {us : List Int} {k : Nat} (hk : k < us.length) : us[k]?.getD 0 ∈ us := by
  rw [List.getElem?_eq_getElem hk]
  exact List.getElem_mem hk
/-- A part as long as the map is the map. -/
theorem part_full {xs ps : List (Int × Int)} (h : PartOf xs (mkm ps)) (hl : xs.length = (mapU ps).length) : SeqOf xs (mkm ps) := by
  refine ⟨h.1, fun k v => ⟨fun hm => h.2 (k, v) hm, fun hf => ?_⟩⟩
  by_cases hm : (k, v) ∈ xs
  · exact hm
  · exfalso
    have hin := ((mapU_graph ps).2 k v).2 hf
    have h1 := nodup_le ((k, v) :: xs) (mapU ps) (List.nodup_cons.2 ⟨hm, nodup_of_keys h.1⟩) (fun p hp => by
      rcases List.mem_cons.1 hp with e | e
      · rw [e]; exact hin
      · exact part_mem h p e)
    simp only [List.length_cons] at h1
    omega

end Go.Proofs.Ytpmcoiomnkladaa
