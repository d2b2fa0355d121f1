/-
  Plain laws on sorting by insertion. No statement is proved here.
-/
import Derived.Test.YtlibakmllogcdaaBase
namespace Go.Proofs.Ytlibakmllogcdaa

/-- A number put behind all that are not above it. -/
def insU (v : Int) : List Int → List Int
  | [] => [v]
  | q :: r => if q ≤ v then q :: insU v r else v :: q :: r
/-- Numbers ascending. -/
def upw (zs : List Int) : List Int := zs.foldl (fun acc v => insU v acc) []
theorem upw_snoc (zs : List Int) (v : Int) : upw (zs ++ [v]) = insU v (upw zs) := by simp [upw, List.foldl_append]
theorem insU_length (v : Int) : ∀ l : List Int, (insU v l).length = l.length + 1
  | [] => rfl
  | q :: r => by unfold insU; split <;> simp [insU_length v r]
theorem insU_perm (v : Int) : ∀ l : List Int, (insU v l).Perm (v :: l)
  | [] => List.Perm.refl _
  | q :: r => by
    unfold insU
    split
    · exact ((insU_perm v r).cons q).trans (List.Perm.swap v q r)
    · exact List.Perm.refl _
theorem insU_rising (v : Int) : ∀ {l : List Int}, l.Pairwise (· ≤ ·) → (insU v l).Pairwise (· ≤ ·)
  | [], _ => by simp [insU]
  | q :: r, h => by
    have h' := List.pairwise_cons.1 h
    unfold insU
    split
    · rename_i hle
      refine List.pairwise_cons.2 ⟨fun x hx => ?_, insU_rising v h'.2⟩
      rcases List.mem_cons.1 ((insU_perm v r).mem_iff.1 hx) with e | e
      · subst e; exact hle
      · exact h'.1 x e
    · rename_i hle
      refine List.pairwise_cons.2 ⟨fun x hx => ?_, h⟩
      rcases List.mem_cons.1 hx with e | e
      · subst e; omega
      · have := h'.1 x e; omega
theorem upw_perm (zs : List Int) : (upw zs).Perm zs := by
  have key : ∀ (zs acc : List Int), (zs.foldl (fun acc v => insU v acc) acc).Perm (acc ++ zs) := by
    intro zs
    induction zs with
    | nil => intro acc; simp
    | cons z zs ih =>
      intro acc
      refine (ih _).trans ?_
      refine ((insU_perm z acc).append_right zs).trans ?_
      exact List.perm_middle.symm
  simpa [upw] using key zs []
theorem upw_length (zs : List Int) : (upw zs).length = zs.length := (upw_perm zs).length_eq
theorem upw_rising (zs : List Int) : (upw zs).Pairwise (· ≤ ·) := by
  have key : ∀ (zs acc : List Int), acc.Pairwise (· ≤ ·) → (zs.foldl (fun acc v => insU v acc) acc).Pairwise (· ≤ ·) := by
    intro zs
    induction zs with
    | nil => intro acc h; exact h
    | cons z zs ih => intro acc h; exact ih _ (insU_rising z h)
  exact key zs [] List.Pairwise.nil
theorem up_unique : ∀ {a b : List Int}, a.Perm b → a.Pairwise (· ≤ ·) → b.Pairwise (· ≤ ·) → a = b
  | [], b, hp, _, _ => by rw [hp.symm.eq_nil]
  | p :: ps, [], hp, _, _ => by exact absurd hp.eq_nil (by simp)
  | p :: ps, q :: qs, hp, ha, hb => by
    have ha' := List.pairwise_cons.1 ha
    have hb' := List.pairwise_cons.1 hb
    have e : p = q := by
      rcases List.mem_cons.1 (hp.mem_iff.1 List.mem_cons_self) with e | e
      · exact e
      · rcases List.mem_cons.1 (hp.mem_iff.2 (List.mem_cons_self (a := q) (l := qs))) with e' | e'
        · exact e'.symm
        · have h1 := hb'.1 p e
          have h2 := ha'.1 q e'
          omega
    subst e
    rw [up_unique (List.Perm.cons_inv hp) ha'.2 hb'.2]
theorem upw_of_perm {a b : List Int} (h : a.Perm b) : upw a = upw b := up_unique (((upw_perm a).trans h).trans (upw_perm b).symm) (upw_rising a) (upw_rising b)
theorem upw_eq {a b : List Int} (h : a.Perm b) (ha : a.Pairwise (· ≤ ·)) : a = upw b := up_unique (h.trans (upw_perm b).symm) ha (upw_rising b)
/-- By the place that the inner loop finds. -/
theorem insU_at (v : Int) (l : List Int) (k : Nat) (hk : k ≤ l.length) (hlow : ∀ j (h : j < k), (l[j]'(by omega)) ≤ v) (hg : ∀ (h : k < l.length), v < l[k]) : insU v l = l.take k ++ [v] ++ l.drop k := by
  induction l generalizing k with
  | nil =>
    obtain rfl : k = 0 := by simpa using hk
    rfl
  | cons q r ih =>
    cases k with
    | zero =>
      have := hg (by simp)
      simp only [List.getElem_cons_zero] at this
      unfold insU
      rw [if_neg (by omega)]
      rfl
    | succ k =>
      have h0 := hlow 0 (by omega)
      simp only [List.getElem_cons_zero] at h0
      unfold insU
      rw [if_pos h0, ih k (by simpa using hk) (fun j hj => by have := hlow (j + 1) (by omega); simpa using this) (fun h => by have := hg (by simpa using h); simpa using this)]
      rfl
/-- As far as the inner loop has come. -/
def UpTo (l : List Int) (v : Int) (k : Nat) : Prop := ∀ j (h : j < l.length), j < k → l[j] ≤ v
theorem UpTo.step {l : List Int} {v : Int} {k : Nat} (h : UpTo l v k) (hk : k < l.length) (hv : l[k] ≤ v) : UpTo l v (k + 1) := by
  intro j hj hlt
  rcases Nat.lt_or_ge j k with h1 | h1
  · exact h j hj h1
  · obtain rfl : j = k := by omega
    exact hv
theorem UpTo.ins {l : List Int} {v : Int} {k : Nat} (h : UpTo l v k) (hk : k ≤ l.length) (hg : ∀ (h : k < l.length), v < l[k]) : insU v l = l.take k ++ [v] ++ l.drop k :=
  insU_at v l k hk (fun j hj => h j (by omega) hj) hg

end Go.Proofs.Ytlibakmllogcdaa
