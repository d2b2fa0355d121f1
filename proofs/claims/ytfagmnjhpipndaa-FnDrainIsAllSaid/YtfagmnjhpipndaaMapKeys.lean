/-
  Plain laws on the keys and values of a map of pairs. No statement is proved here.
-/
import Derived.Test.YtfagmnjhpipndaaMapMore
import Derived.Test.YtfagmnjhpipndaaUpLaw
namespace Go.Proofs.Ytfagmnjhpipndaa

/-- The keys of the map of pairs, ascending. -/
def keysU (ps : List (Int × Int)) : List Int := (mapU ps).map (·.1)
/-- The values of the map of pairs, ascending. -/
def valsU (ps : List (Int × Int)) : List Int := upw ((mapU ps).map (·.2))
theorem keysU_eq (ps : List (Int × Int)) : keysU ps = (mapU ps).map (·.1) := by unfold keysU; exact rfl
theorem valsU_eq (ps : List (Int × Int)) : valsU ps = upw ((mapU ps).map (·.2)) := by unfold valsU; exact rfl
theorem keysU_length (ps : List (Int × Int)) : (keysU ps).length = (mapU ps).length := by simp [keysU]
theorem valsU_length (ps : List (Int × Int)) : (valsU ps).length = (mapU ps).length := by rw [valsU, upw_length, List.length_map]
theorem keysU_le (ps : List (Int × Int)) : (keysU ps).length ≤ ps.length := by rw [keysU_length]; exact mapU_length ps
theorem nodup_of_keys {xs : List (Int × Int)} (h : (xs.map (·.1)).Nodup) : xs.Nodup := by
  rw [List.nodup_iff_pairwise_ne, List.pairwise_map] at h
  rw [List.nodup_iff_pairwise_ne]
  exact h.imp (fun hne e => hne (by rw [e]))
theorem seq_perm {xs ps : List (Int × Int)} {f : FMap} (h : SeqOf xs f) (g : Graph ps f) : xs.Perm ps :=
  (List.perm_ext_iff_of_nodup (nodup_of_keys h.1) (nodup_of_keys g.seq.1)).2 fun p => (h.2 p.1 p.2).trans (g.2 p.1 p.2).symm
theorem keysU_rising (ps : List (Int × Int)) : (keysU ps).Pairwise (· < ·) := by
  rw [keysU, List.pairwise_map]
  exact (mapU_graph ps).1
theorem keys_upw {xs ps : List (Int × Int)} {ys : List Int} (h : SeqOf xs (mkm ps)) (hy : ys.map id = xs.map (fun p => p.1)) : upw ys = keysU ps := by
  rw [List.map_id] at hy
  subst hy
  refine (upw_eq ((seq_perm h (mapU_graph ps)).symm.map _) ?_).symm
  exact (keysU_rising ps).imp (fun h => by omega)
theorem vals_upw {xs ps : List (Int × Int)} {ys : List Int} (h : SeqOf xs (mkm ps)) (hy : ys.map id = xs.map (fun p => p.2)) : upw ys = valsU ps := by
  rw [List.map_id] at hy
  subst hy
  exact upw_of_perm ((seq_perm h (mapU_graph ps)).map _)
theorem seq_length {xs ps : List (Int × Int)} (h : SeqOf xs (mkm ps)) : xs.length = (mapU ps).length := (seq_perm h (mapU_graph ps)).length_eq
theorem seq_nil {xs ps : List (Int × Int)} (h : SeqOf xs (mkm ps)) : xs = [] ↔ ps = [] := by
  have hl := seq_length h
  constructor
  · rintro rfl
    rcases ps with _ | ⟨p, ps⟩
    · rfl
    · have := mapU_pos (p :: ps) (by simp)
      simp at hl
      omega
  · rintro rfl
    exact List.eq_nil_of_length_eq_zero (by rw [hl]; rfl)

/-- A row of the call's own stays as it is. -/
theorem own_below {w w' : World} {base sz n : Nat} {e : TypeId} {v : Value} {xs : List Value} (h : w.ownsRow base e sz v n xs) (hb : RowKit.Below w.heap.size w w') : w'.ownsRow base e sz v n xs := by
  refine ⟨h.1, ?_⟩
  rcases h.2 with h0 | ⟨g, cap, cur, e1, hg, hh, rest⟩
  · exact .inl h0
  · exact .inr ⟨g, cap, cur, e1, hg, (hb.block g (Array.getElem?_eq_some_iff.1 hh).1).trans hh, rest⟩

end Go.Proofs.Ytfagmnjhpipndaa
