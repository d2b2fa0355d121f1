/-
  Plain laws on finite maps as functions, and on lists of pairs by ascending keys. No statement is proved here.
-/
import Derived.Test.YtfagmnjhpipndaaPairs
namespace Go.Proofs.Ytfagmnjhpipndaa

abbrev FMap : Type := Int → Option Int
def upd (f : FMap) (k v : Int) : FMap := fun x => if x = k then some v else f x
def ups (f : FMap) (ps : List (Int × Int)) : FMap := ps.foldl (fun f p => upd f p.1 p.2) f
def noMap : FMap := fun _ => none
/-- The map of pairs, one after the other. -/
def mkm (ps : List (Int × Int)) : FMap := ups noMap ps

theorem ups_nil (f : FMap) : ups f [] = f := rfl
theorem ups_snoc (f : FMap) (ps : List (Int × Int)) (p : Int × Int) : ups f (ps ++ [p]) = upd (ups f ps) p.1 p.2 := by simp [ups, List.foldl_append]
theorem ups_append (f : FMap) (ps qs : List (Int × Int)) : ups f (ps ++ qs) = ups (ups f ps) qs := by simp [ups, List.foldl_append]
theorem mkm_append (ps qs : List (Int × Int)) : mkm (ps ++ qs) = ups (mkm ps) qs := ups_append _ _ _
theorem mkm_snoc (ps : List (Int × Int)) (p : Int × Int) : mkm (ps ++ [p]) = upd (mkm ps) p.1 p.2 := ups_snoc _ _ _
theorem upd_same (f : FMap) (k v : Int) : upd f k v k = some v := by simp [upd]
theorem upd_other (f : FMap) {k x : Int} (v : Int) (h : x ≠ k) : upd f k v x = f x := by simp [upd, h]

/-- Whatever a map of pairs holds comes of a pair. -/
theorem ups_mem : ∀ (ps : List (Int × Int)) (f : FMap) (k v : Int), ups f ps k = some v → (k, v) ∈ ps ∨ f k = some v
  | [], f, k, v, h => .inr h
  | p :: ps, f, k, v, h => by
    rcases ups_mem ps (upd f p.1 p.2) k v h with h1 | h1
    · exact .inl (List.mem_cons_of_mem _ h1)
    · by_cases e : k = p.1
      · subst e
        rw [upd_same] at h1
        injection h1 with h1
        subst h1
        exact .inl (List.mem_cons_self)
      · rw [upd_other _ _ e] at h1
        exact .inr h1
theorem mkm_mem {ps : List (Int × Int)} {k v : Int} (h : mkm ps k = some v) : (k, v) ∈ ps := by
  rcases ups_mem ps noMap k v h with h | h
  · exact h
  · cases h
theorem ups_some : ∀ (ps : List (Int × Int)) (f : FMap) (k : Int), ((ps.map (·.1)).contains k = true ∨ (f k).isSome = true) → (ups f ps k).isSome = true
  | [], f, k, h => by simpa [ups] using h
  | p :: ps, f, k, h => by
    refine ups_some ps (upd f p.1 p.2) k ?_
    by_cases e : k = p.1
    · subst e; right; rw [upd_same]; rfl
    · rw [upd_other _ _ e]
      rcases h with h | h
      · left; simpa [e] using h
      · exact .inr h
theorem mkm_some {ps : List (Int × Int)} {p : Int × Int} (h : p ∈ ps) : (mkm ps p.1).isSome = true :=
  ups_some ps noMap p.1 (.inl (by simp only [List.contains_iff_mem]; exact List.mem_map_of_mem h))

/-- A list of pairs of different keys that has just the pairs of f. -/
def SeqOf (xs : List (Int × Int)) (f : FMap) : Prop := (xs.map (·.1)).Nodup ∧ ∀ k v, (k, v) ∈ xs ↔ f k = some v
/-- A list of pairs of different keys, all of f. -/
def PartOf (xs : List (Int × Int)) (f : FMap) : Prop := (xs.map (·.1)).Nodup ∧ ∀ p ∈ xs, f p.1 = some p.2
theorem SeqOf.part {xs : List (Int × Int)} {f : FMap} (h : SeqOf xs f) : PartOf xs f := ⟨h.1, fun p hp => (h.2 p.1 p.2).1 hp⟩

/-- Putting in pairs of different keys, in whatever order. -/
theorem ups_seq {xs : List (Int × Int)} {f : FMap} (h : SeqOf xs f) (g : FMap) (k : Int) : ups g xs k = (f k).or (g k) := by
  have key : ∀ (ys : List (Int × Int)) (g : FMap), (ys.map (·.1)).Nodup → ∀ k, ups g ys k = ((ys.find? (fun p => p.1 == k)).map (·.2)).or (g k) := by
    intro ys
    induction ys with
    | nil => intro g _ k; simp [ups]
    | cons p ys ih =>
      intro g hnd k
      rw [List.map_cons, List.nodup_cons] at hnd
      show ups (upd g p.1 p.2) ys k = _
      rw [ih _ hnd.2 k]
      by_cases e : p.1 = k
      · subst e
        have hnone : ys.find? (fun q => q.1 == p.1) = none := by
          rw [List.find?_eq_none]
          intro q hq
          simp only [beq_iff_eq]
          intro e
          exact hnd.1 (e ▸ List.mem_map_of_mem hq)
        rw [hnone, upd_same]
        simp
      · rw [upd_other _ _ (Ne.symm e), List.find?_cons_of_neg (by simpa using e)]
  rw [key xs g h.1 k]
  congr 1
  cases hf : xs.find? (fun p => p.1 == k) with
  | none =>
    rw [List.find?_eq_none] at hf
    cases hk : f k with
    | none => rfl
    | some v => exact absurd (hf (k, v) ((h.2 k v).2 hk)) (by simp)
  | some p =>
    have h1 := List.find?_some hf
    have h2 := List.mem_of_find?_eq_some hf
    simp only [beq_iff_eq] at h1
    subst h1
    exact ((h.2 p.1 p.2).1 h2).symm

/-- The pairs of f by ascending keys. -/
def Graph (ps : List (Int × Int)) (f : FMap) : Prop := ps.Pairwise (fun a b => a.1 < b.1) ∧ ∀ k v, (k, v) ∈ ps ↔ f k = some v

theorem Graph.seq {ps : List (Int × Int)} {f : FMap} (h : Graph ps f) : SeqOf ps f := by
  refine ⟨?_, h.2⟩
  rw [List.nodup_iff_pairwise_ne, List.pairwise_map]
  exact h.1.imp (fun hlt => by omega)

theorem rising_unique : ∀ {ps qs : List (Int × Int)}, ps.Pairwise (fun a b => a.1 < b.1) → qs.Pairwise (fun a b => a.1 < b.1) → (∀ p, p ∈ ps ↔ p ∈ qs) → ps = qs
  | [], [], _, _, _ => rfl
  | [], q :: qs, _, _, h => by simpa using (h q).2 (List.mem_cons_self)
  | p :: ps, [], _, _, h => by simpa using (h p).1 (List.mem_cons_self)
  | p :: ps, q :: qs, hp, hq, h => by
    rw [List.pairwise_cons] at hp hq
    have e : p = q := by
      rcases List.mem_cons.1 ((h p).1 List.mem_cons_self) with e | e
      · exact e
      · rcases List.mem_cons.1 ((h q).2 List.mem_cons_self) with e' | e'
        · exact e'.symm
        · have h1 := hq.1 p e
          have h2 := hp.1 q e'
          omega
    subst e
    rw [rising_unique hp.2 hq.2 (fun x => ⟨fun hx => ?_, fun hx => ?_⟩)]
    · rcases List.mem_cons.1 ((h x).1 (List.mem_cons_of_mem _ hx)) with e | e
      · subst e; have := hp.1 x hx; omega
      · exact e
    · rcases List.mem_cons.1 ((h x).2 (List.mem_cons_of_mem _ hx)) with e | e
      · subst e; have := hq.1 x hx; omega
      · exact e
theorem Graph.unique {ps qs : List (Int × Int)} {f : FMap} (h : Graph ps f) (h' : Graph qs f) : ps = qs :=
  rising_unique h.1 h'.1 (fun p => (h.2 p.1 p.2).trans (h'.2 p.1 p.2).symm)

/-- impl.put -/
def putP (p : Int × Int) : List (Int × Int) → List (Int × Int)
  | [] => [p]
  | q :: r => if p.1 < q.1 then p :: q :: r else q :: putP p r
theorem putP_length (p : Int × Int) : ∀ l : List (Int × Int), (putP p l).length = l.length + 1
  | [] => rfl
  | q :: r => by unfold putP; split <;> simp [putP_length p r]
theorem putP_mem (p x : Int × Int) : ∀ l : List (Int × Int), x ∈ putP p l ↔ x = p ∨ x ∈ l
  | [] => by simp [putP]
  | q :: r => by
    unfold putP
    split
    · simp
    · simp only [List.mem_cons, putP_mem p x r]
      constructor
      · rintro (h | h | h)
        · exact .inr (.inl h)
        · exact .inl h
        · exact .inr (.inr h)
      · rintro (h | h | h)
        · exact .inr (.inl h)
        · exact .inl h
        · exact .inr (.inr h)
theorem putP_rising (p : Int × Int) : ∀ {l : List (Int × Int)}, l.Pairwise (fun a b => a.1 < b.1) → (∀ q ∈ l, q.1 ≠ p.1) → (putP p l).Pairwise (fun a b => a.1 < b.1)
  | [], _, _ => by simp [putP]
  | q :: r, h, hn => by
    rw [List.pairwise_cons] at h
    unfold putP
    split
    · rename_i hlt
      rw [List.pairwise_cons]
      refine ⟨fun x hx => ?_, List.pairwise_cons.2 h⟩
      rcases List.mem_cons.1 hx with e | e
      · subst e; exact hlt
      · have := h.1 x e; omega
    · rename_i hge
      rw [List.pairwise_cons]
      refine ⟨fun x hx => ?_, putP_rising p h.2 (fun x hx => hn x (List.mem_cons_of_mem _ hx))⟩
      rcases (putP_mem p x r).1 hx with e | e
      · subst e; have := hn q List.mem_cons_self; omega
      · exact h.1 x e
/-- As far as the loop of impl.put has come. -/
def anyAfter (p : Int × Int) (l : List (Int × Int)) : Bool := l.any (fun q => decide (p.1 < q.1))
theorem anyAfter_snoc (p q : Int × Int) (l : List (Int × Int)) : anyAfter p (l ++ [q]) = (anyAfter p l || decide (p.1 < q.1)) := by simp [anyAfter]
theorem putP_none (p : Int × Int) : ∀ l : List (Int × Int), anyAfter p l = false → putP p l = l ++ [p]
  | [], _ => rfl
  | q :: r, h => by
    simp only [anyAfter, List.any_cons, Bool.or_eq_false_iff, decide_eq_false_iff_not] at h
    unfold putP
    rw [if_neg h.1, putP_none p r h.2]
    rfl
theorem putP_first (p q : Int × Int) : ∀ l : List (Int × Int), anyAfter p l = false → p.1 < q.1 → putP p (l ++ [q]) = l ++ [p] ++ [q]
  | [], _, hq => by simp [putP, hq]
  | x :: r, h, hq => by
    simp only [anyAfter, List.any_cons, Bool.or_eq_false_iff, decide_eq_false_iff_not] at h
    show putP p (x :: (r ++ [q])) = _
    unfold putP
    rw [if_neg h.1, putP_first p q r h.2 hq]
    rfl
theorem putP_later (p q : Int × Int) : ∀ l : List (Int × Int), anyAfter p l = true → putP p (l ++ [q]) = putP p l ++ [q]
  | [], h => by cases h
  | x :: r, h => by
    show putP p (x :: (r ++ [q])) = _
    unfold putP
    by_cases hx : p.1 < x.1
    · rw [if_pos hx, if_pos hx]; rfl
    · rw [if_neg hx, if_neg hx]
      simp only [anyAfter, List.any_cons, Bool.or_eq_true, decide_eq_true_eq] at h
      rw [putP_later p q r (h.resolve_left hx)]
      rfl

/-- spec.Map's step. -/
def insM (p : Int × Int) : List (Int × Int) → List (Int × Int)
  | [] => [p]
  | q :: r => if q.1 < p.1 then q :: insM p r else if q.1 = p.1 then p :: r else p :: q :: r
theorem insM_length (p : Int × Int) : ∀ l : List (Int × Int), (insM p l).length ≤ l.length + 1
  | [] => by simp [insM]
  | q :: r => by
    have := insM_length p r
    unfold insM
    split
    · simp; omega
    · split <;> simp
theorem insM_low (p x : Int × Int) : ∀ {l : List (Int × Int)}, x ∈ insM p l → x = p ∨ x ∈ l
  | [], h => by simpa [insM] using h
  | q :: r, h => by
    unfold insM at h
    split at h
    · rcases List.mem_cons.1 h with e | e
      · exact .inr (e ▸ List.mem_cons_self)
      · exact (insM_low p x e).imp id (List.mem_cons_of_mem _)
    · split at h
      · exact (List.mem_cons.1 h).imp id (List.mem_cons_of_mem _)
      · exact List.mem_cons.1 h
theorem insM_rising (p : Int × Int) : ∀ {l : List (Int × Int)}, l.Pairwise (fun a b => a.1 < b.1) → (insM p l).Pairwise (fun a b => a.1 < b.1)
  | [], _ => by simp [insM]
  | q :: r, h => by
    have h' := List.pairwise_cons.1 h
    unfold insM
    split
    · rename_i hlt
      rw [List.pairwise_cons]
      refine ⟨fun x hx => ?_, insM_rising p h'.2⟩
      rcases insM_low p x hx with e | e
      · subst e; exact hlt
      · exact h'.1 x e
    · split
      · rename_i _ heq
        rw [List.pairwise_cons]
        exact ⟨fun x hx => by have := h'.1 x hx; omega, h'.2⟩
      · rw [List.pairwise_cons]
        refine ⟨fun x hx => ?_, h⟩
        rcases List.mem_cons.1 hx with e | e
        · subst e; omega
        · have := h'.1 x e; omega
theorem insM_mem (p x : Int × Int) : ∀ {l : List (Int × Int)}, l.Pairwise (fun a b => a.1 < b.1) → (x ∈ insM p l ↔ x = p ∨ (x ∈ l ∧ x.1 ≠ p.1))
  | [], _ => by simp [insM]
  | q :: r, h => by
    have h' := List.pairwise_cons.1 h
    unfold insM
    split
    · rename_i hlt
      rw [List.mem_cons, insM_mem p x h'.2, List.mem_cons]
      constructor
      · rintro (e | e | e)
        · subst e; exact .inr ⟨.inl rfl, by omega⟩
        · exact .inl e
        · exact .inr ⟨.inr e.1, e.2⟩
      · rintro (e | ⟨e | e, hne⟩)
        · exact .inr (.inl e)
        · exact .inl e
        · exact .inr (.inr ⟨e, hne⟩)
    · split
      · rename_i _ heq
        rw [List.mem_cons, List.mem_cons]
        constructor
        · rintro (e | e)
          · exact .inl e
          · exact .inr ⟨.inr e, by have := h'.1 x e; omega⟩
        · rintro (e | ⟨e | e, hne⟩)
          · exact .inl e
          · subst e; exact absurd heq hne
          · exact .inr e
      · rw [List.mem_cons]
        constructor
        · rintro (e | e)
          · exact .inl e
          · refine .inr ⟨e, ?_⟩
            rcases List.mem_cons.1 e with e | e
            · subst e; omega
            · have := h'.1 x e; omega
        · rintro (e | e)
          · exact .inl e
          · exact .inr e.1
theorem Graph.ins {ps : List (Int × Int)} {f : FMap} (h : Graph ps f) (p : Int × Int) : Graph (insM p ps) (upd f p.1 p.2) := by
  refine ⟨insM_rising p h.1, fun k v => ?_⟩
  rw [insM_mem p (k, v) h.1]
  by_cases e : k = p.1
  · subst e
    rw [upd_same]
    constructor
    · rintro (e | e)
      · rw [show p.2 = v from (congrArg Prod.snd e).symm]
      · exact absurd rfl e.2
    · intro e
      injection e with e
      exact .inl (by rw [← e])
  · rw [upd_other _ _ e, ← h.2 k v]
    constructor
    · rintro (e' | e')
      · exact absurd (congrArg Prod.fst e') e
      · exact e'.1
    · intro e'
      exact .inr ⟨e', e⟩
theorem graph_none : Graph [] noMap := ⟨List.Pairwise.nil, fun k v => by simp [noMap]⟩
/-- The step of spec.Map, by the place that its inner loop finds. -/
theorem insM_at (p : Int × Int) (l : List (Int × Int)) (k : Nat) (hk : k ≤ l.length) (hlow : ∀ j (h : j < k), (l[j]'(by omega)).1 < p.1) :
    (∀ (h : k < l.length), l[k].1 = p.1 → insM p l = l.set k p) ∧ ((∀ (h : k < l.length), p.1 < l[k].1) → insM p l = l.take k ++ [p] ++ l.drop k) := by
  induction l generalizing k with
  | nil =>
    obtain rfl : k = 0 := by simpa using hk
    exact ⟨fun h => absurd h (by simp), fun _ => rfl⟩
  | cons q r ih =>
    cases k with
    | zero =>
      refine ⟨fun _ he => ?_, fun hg => ?_⟩
      · simp only [List.getElem_cons_zero] at he
        unfold insM
        rw [if_neg (by omega), if_pos he]
        rfl
      · have := hg (by simp)
        simp only [List.getElem_cons_zero] at this
        unfold insM
        rw [if_neg (by omega), if_neg (by omega)]
        rfl
    | succ k =>
      have h0 := hlow 0 (by omega)
      simp only [List.getElem_cons_zero] at h0
      have ih' := ih k (by simpa using hk) (fun j hj => by have := hlow (j + 1) (by omega); simpa using this)
      unfold insM
      rw [if_pos h0]
      refine ⟨fun h he => ?_, fun hg => ?_⟩
      · rw [ih'.1 (by simpa using h) (by simpa using he)]; rfl
      · rw [ih'.2 (fun h => by have := hg (by simpa using h); simpa using this)]; rfl

end Go.Proofs.Ytfagmnjhpipndaa
