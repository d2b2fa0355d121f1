/-
  Plain laws on sorting by insertion. No statement is proved here.
-/
import Derived.Test.YtlibakmllogcdaaTexts
namespace Go.Proofs.Ytlibakmllogcdaa

/-- A number put behind all that are not above it. -/
def insUT (v : List UInt8) : List (List UInt8) → List (List UInt8)
  | [] => [v]
  | q :: r => if q ≤ v then q :: insUT v r else v :: q :: r
/-- Numbers ascending. -/
def upwT (zs : List (List UInt8)) : List (List UInt8) := zs.foldl (fun acc v => insUT v acc) []
theorem upwT_snoc (zs : List (List UInt8)) (v : List UInt8) : upwT (zs ++ [v]) = insUT v (upwT zs) := by simp [upwT, List.foldl_append]
theorem insUT_length (v : List UInt8) : ∀ l : List (List UInt8), (insUT v l).length = l.length + 1
  | [] => rfl
  | q :: r => by unfold insUT; split <;> simp [insUT_length v r]
theorem insUT_perm (v : List UInt8) : ∀ l : List (List UInt8), (insUT v l).Perm (v :: l)
  | [] => List.Perm.refl _
  | q :: r => by
    unfold insUT
    split
    · exact ((insUT_perm v r).cons q).trans (List.Perm.swap v q r)
    · exact List.Perm.refl _
theorem insUT_rising (v : List UInt8) : ∀ {l : List (List UInt8)}, l.Pairwise (· ≤ ·) → (insUT v l).Pairwise (· ≤ ·)
  | [], _ => by simp [insUT]
  | q :: r, h => by
    have h' := List.pairwise_cons.1 h
    unfold insUT
    split
    · rename_i hle
      refine List.pairwise_cons.2 ⟨fun x hx => ?_, insUT_rising v h'.2⟩
      rcases List.mem_cons.1 ((insUT_perm v r).mem_iff.1 hx) with e | e
      · subst e; exact hle
      · exact h'.1 x e
    · rename_i hle
      refine List.pairwise_cons.2 ⟨fun x hx => ?_, h⟩
      rcases List.mem_cons.1 hx with e | e
      · subst e; exact List.le_of_lt (List.not_le.1 hle)
      · exact List.le_trans (List.le_of_lt (List.not_le.1 hle)) (h'.1 x e)
theorem upwT_perm (zs : List (List UInt8)) : (upwT zs).Perm zs := by
  have key : ∀ (zs acc : List (List UInt8)), (zs.foldl (fun acc v => insUT v acc) acc).Perm (acc ++ zs) := by
    intro zs
    induction zs with
    | nil => intro acc; simp
    | cons z zs ih =>
      intro acc
      refine (ih _).trans ?_
      refine ((insUT_perm z acc).append_right zs).trans ?_
      exact List.perm_middle.symm
  simpa [upwT] using key zs []
theorem upwT_length (zs : List (List UInt8)) : (upwT zs).length = zs.length := (upwT_perm zs).length_eq
theorem upwT_rising (zs : List (List UInt8)) : (upwT zs).Pairwise (· ≤ ·) := by
  have key : ∀ (zs acc : List (List UInt8)), acc.Pairwise (· ≤ ·) → (zs.foldl (fun acc v => insUT v acc) acc).Pairwise (· ≤ ·) := by
    intro zs
    induction zs with
    | nil => intro acc h; exact h
    | cons z zs ih => intro acc h; exact ih _ (insUT_rising z h)
  exact key zs [] List.Pairwise.nil
theorem up_uniqueT : ∀ {a b : List (List UInt8)}, a.Perm b → a.Pairwise (· ≤ ·) → b.Pairwise (· ≤ ·) → a = b
  | [], b, hp, _, _ => by rw [hp.symm.eq_nil]
  | p :: ps, [], hp, _, _ => by exact absurd hp.eq_nil (by simp)
  | p :: ps, q :: qs, hp, ha, hb => by
    have ha' := List.pairwise_cons.1 ha
    have hb' := List.pairwise_cons.1 hb
    have e : p = q := by
      rcases List.mem_cons.1 (hp.mem_iff.1 List.mem_cons_self) with e | e
      · exact e
      · rcases List.mem_cons.1 (hp.mem_iff.2 (List.mem_cons_self (a := q) (l := qs))) with e' | e'
        · exact e'.symm
        · have h1 := hb'.1 p e
          have h2 := ha'.1 q e'
          exact List.le_antisymm h2 h1
    subst e
    rw [up_uniqueT (List.Perm.cons_inv hp) ha'.2 hb'.2]
theorem upwT_of_perm {a b : List (List UInt8)} (h : a.Perm b) : upwT a = upwT b := up_uniqueT (((upwT_perm a).trans h).trans (upwT_perm b).symm) (upwT_rising a) (upwT_rising b)
theorem upwT_eq {a b : List (List UInt8)} (h : a.Perm b) (ha : a.Pairwise (· ≤ ·)) : a = upwT b := up_uniqueT (h.trans (upwT_perm b).symm) ha (upwT_rising b)
/-- By the place that the inner loop finds. -/
theorem insUT_at (v : List UInt8) (l : List (List UInt8)) (k : Nat) (hk : k ≤ l.length) (hlow : ∀ j (h : j < k), (l[j]'(by omega)) ≤ v) (hg : ∀ (h : k < l.length), v < l[k]) : insUT v l = l.take k ++ [v] ++ l.drop k := by
  induction l generalizing k with
  | nil =>
    obtain rfl : k = 0 := by simpa using hk
    rfl
  | cons q r ih =>
    cases k with
    | zero =>
      have := hg (by simp)
      simp only [List.getElem_cons_zero] at this
      unfold insUT
      rw [if_neg (List.not_le.2 this)]
      rfl
    | succ k =>
      have h0 := hlow 0 (by omega)
      simp only [List.getElem_cons_zero] at h0
      unfold insUT
      rw [if_pos h0, ih k (by simpa using hk) (fun j hj => by have := hlow (j + 1) (by omega); simpa using this) (fun h => by have := hg (by simpa using h); simpa using this)]
      rfl
/-- As far as the inner loop has come. -/
def UpToT (l : List (List UInt8)) (v : List UInt8) (k : Nat) : Prop := ∀ j (h : j < l.length), j < k → l[j] ≤ v
theorem UpToT.step {l : List (List UInt8)} {v : List UInt8} {k : Nat} (h : UpToT l v k) (hk : k < l.length) (hv : l[k] ≤ v) : UpToT l v (k + 1) := by
  intro j hj hlt
  rcases Nat.lt_or_ge j k with h1 | h1
  · exact h j hj h1
  · obtain rfl : j = k := by omega
    exact hv
theorem UpToT.ins {l : List (List UInt8)} {v : List UInt8} {k : Nat} (h : UpToT l v k) (hk : k ≤ l.length) (hg : ∀ (h : k < l.length), v < l[k]) : insUT v l = l.take k ++ [v] ++ l.drop k :=
  insUT_at v l k hk (fun j hj => h j (by omega) hj) hg

end Go.Proofs.Ytlibakmllogcdaa
