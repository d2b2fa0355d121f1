/-
  More plain laws on the map of pairs. No statement is proved here.
-/
import Derived.Test.YtfagmnjhpipndaaSpecMap
import Derived.Test.YtfagmnjhpipndaaMapPost
namespace Go.Proofs.Ytfagmnjhpipndaa

theorem mapU_pos (ps : List (Int × Int)) (h : 0 < ps.length) : 0 < (mapU ps).length := by
  obtain ⟨p, hp⟩ := List.exists_mem_of_length_pos h
  obtain ⟨v, hv⟩ := Option.isSome_iff_exists.1 (mkm_some hp)
  exact List.length_pos_of_mem (((mapU_graph ps).2 p.1 v).2 hv)

end Go.Proofs.Ytfagmnjhpipndaa
