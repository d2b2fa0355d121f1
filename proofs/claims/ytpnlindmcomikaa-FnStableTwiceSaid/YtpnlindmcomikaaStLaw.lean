/-
  Plain laws on a stable sort by ranks: by insertion, and as what a stable merge sort leaves. No statement is proved here.
-/
import Derived.Test.YtpnlindmcomikaaStableLaw
import Derived.Test.YtpnlindmcomikaaRank
import Derived.Test.YtpnlindmcomikaaUpLaw
namespace Go.Proofs.Ytpnlindmcomikaa
open Go.Sort

/-- A number put behind all that are not of a greater rank. -/
def insR (tb : List Int) (v : Int) : List Int → List Int
  | [] => [v]
  | q :: r => if rk tb q ≤ rk tb v then q :: insR tb v r else v :: q :: r
/-- Numbers by their ranks, those of equal ranks in order. -/
def stb (tb : List Int) (zs : List Int) : List Int := zs.foldl (fun acc v => insR tb v acc) []
theorem stb_snoc (tb zs : List Int) (v : Int) : stb tb (zs ++ [v]) = insR tb v (stb tb zs) := by simp [stb, List.foldl_append]
theorem insR_length (tb : List Int) (v : Int) : ∀ l : List Int, (insR tb v l).length = l.length + 1
  | [] => rfl
  | q :: r => by unfold insR; split <;> simp [insR_length tb v r]
theorem insR_perm (tb : List Int) (v : Int) : ∀ l : List Int, (insR tb v l).Perm (v :: l)
  | [] => List.Perm.refl _
  | q :: r => by
    unfold insR
    split
    · exact ((insR_perm tb v r).cons q).trans (List.Perm.swap v q r)
    · exact List.Perm.refl _
theorem stb_perm (tb zs : List Int) : (stb tb zs).Perm zs := by
  have key : ∀ (zs acc : List Int), (zs.foldl (fun acc v => insR tb v acc) acc).Perm (acc ++ zs) := by
    intro zs
    induction zs with
    | nil => intro acc; simp
    | cons z zs ih =>
      intro acc
      refine (ih _).trans ?_
      refine ((insR_perm tb z acc).append_right zs).trans ?_
      exact List.perm_middle.symm
  simpa [stb] using key zs []
theorem stb_length (tb zs : List Int) : (stb tb zs).length = zs.length := (stb_perm tb zs).length_eq
theorem insR_at (tb : List Int) (v : Int) (l : List Int) (k : Nat) (hk : k ≤ l.length) (hlow : ∀ j (h : j < k), rk tb (l[j]'(by omega)) ≤ rk tb v) (hg : ∀ (h : k < l.length), ¬ rk tb l[k] ≤ rk tb v) : insR tb v l = l.take k ++ [v] ++ l.drop k := by
  induction l generalizing k with
  | nil =>
    obtain rfl : k = 0 := by simpa using hk
    rfl
  | cons q r ih =>
    cases k with
    | zero =>
      have := hg (by simp)
      simp only [List.getElem_cons_zero] at this
      unfold insR
      rw [if_neg this]
      rfl
    | succ k =>
      have h0 := hlow 0 (by omega)
      simp only [List.getElem_cons_zero] at h0
      unfold insR
      rw [if_pos h0, ih k (by simpa using hk) (fun j hj => by have := hlow (j + 1) (by omega); simpa using this) (fun h => by have := hg (by simpa using h); simpa using this)]
      rfl
/-- As far as the inner loop has come. -/
def UpToR (tb l : List Int) (v : Int) (k : Nat) : Prop := ∀ j (h : j < l.length), j < k → rk tb l[j] ≤ rk tb v
theorem UpToR.step {tb l : List Int} {v : Int} {k : Nat} (h : UpToR tb l v k) (hk : k < l.length) (hv : rk tb l[k] ≤ rk tb v) : UpToR tb l v (k + 1) := by
  intro j hj hlt
  rcases Nat.lt_or_ge j k with h1 | h1
  · exact h j hj h1
  · obtain rfl : j = k := by omega
    exact hv
theorem UpToR.ins {tb l : List Int} {v : Int} {k : Nat} (h : UpToR tb l v k) (hk : k ≤ l.length) (hg : ∀ (h : k < l.length), ¬ rk tb l[k] ≤ rk tb v) : insR tb v l = l.take k ++ [v] ++ l.drop k :=
  insR_at tb v l k hk (fun j hj => h j (by omega) hj) hg

/-- By rank, then by t. -/
def Lex (tb : List Int) (t : Int → Int) (x y : Int) : Prop := rk tb x < rk tb y ∨ (rk tb x = rk tb y ∧ t x ≤ t y)
theorem insR_lex (tb : List Int) (t : Int → Int) (v : Int) : ∀ {l : List Int}, l.Pairwise (Lex tb t) → (∀ x ∈ l, t x ≤ t v) → (insR tb v l).Pairwise (Lex tb t)
  | [], _, _ => by simp [insR]
  | q :: r, h, ht => by
    have h' := List.pairwise_cons.1 h
    unfold insR
    split
    · rename_i hle
      refine List.pairwise_cons.2 ⟨fun x hx => ?_, insR_lex tb t v h'.2 (fun x hx => ht x (List.mem_cons_of_mem _ hx))⟩
      rcases List.mem_cons.1 ((insR_perm tb v r).mem_iff.1 hx) with e | e
      · subst e
        have := ht q List.mem_cons_self
        unfold Lex
        omega
      · exact h'.1 x e
    · rename_i hle
      refine List.pairwise_cons.2 ⟨fun x hx => ?_, h⟩
      rcases List.mem_cons.1 hx with e | e
      · subst e; exact Or.inl (by omega)
      · have := h'.1 x e
        unfold Lex at this ⊢
        omega
theorem stb_lex (tb : List Int) (t : Int → Int) (zs : List Int) (hz : zs.Pairwise (fun x y => t x ≤ t y)) : (stb tb zs).Pairwise (Lex tb t) := by
  have key : ∀ (zs acc : List Int), acc.Pairwise (Lex tb t) → (∀ x ∈ acc, ∀ y ∈ zs, t x ≤ t y) → zs.Pairwise (fun x y => t x ≤ t y) → (zs.foldl (fun acc v => insR tb v acc) acc).Pairwise (Lex tb t) := by
    intro zs
    induction zs with
    | nil => intro acc h _ _; exact h
    | cons z zs ih =>
      intro acc h h2 h3
      have h3' := List.pairwise_cons.1 h3
      refine ih _ (insR_lex tb t z h (fun x hx => h2 x hx z List.mem_cons_self)) (fun x hx y hy => ?_) h3'.2
      rcases List.mem_cons.1 ((insR_perm tb z acc).mem_iff.1 hx) with e | e
      · subst e; exact h3'.1 y hy
      · exact h2 x e y (List.mem_cons_of_mem _ hy)
  exact key zs [] List.Pairwise.nil (fun x hx => by cases hx) hz
theorem stb_ranks (tb zs : List Int) : (stb tb zs).Pairwise (fun x y => rk tb x ≤ rk tb y) :=
  (stb_lex tb (fun _ => 0) zs (List.pairwise_of_forall (fun _ _ => Int.le_refl _))).imp (fun h => by unfold Lex at h; omega)

/-! ### What a stable merge sort leaves -/
def insG (tb : List Int) (v : Tg) : List Tg → List Tg
  | [] => [v]
  | q :: r => if rk tb q.1 ≤ rk tb v.1 then q :: insG tb v r else v :: q :: r
theorem insG_map (tb : List Int) (v : Tg) : ∀ l : List Tg, (insG tb v l).map (·.1) = insR tb v.1 (l.map (·.1))
  | [] => rfl
  | q :: r => by
    unfold insG
    simp only [List.map_cons]
    unfold insR
    split
    · rw [List.map_cons, insG_map tb v r]
    · rfl
theorem insG_perm (tb : List Int) (v : Tg) : ∀ l : List Tg, (insG tb v l).Perm (v :: l)
  | [] => List.Perm.refl _
  | q :: r => by
    unfold insG
    split
    · exact ((insG_perm tb v r).cons q).trans (List.Perm.swap v q r)
    · exact List.Perm.refl _
theorem insG_sorted (tb : List Int) (v : Tg) : ∀ {l : List Tg}, l.Pairwise (fun x y => lx (rk tb) y x = false) → (∀ x ∈ l, x.2 < v.2) → (insG tb v l).Pairwise (fun x y => lx (rk tb) y x = false)
  | [], _, _ => by simp [insG]
  | q :: r, h, ht => by
    have h' := List.pairwise_cons.1 h
    unfold insG
    split
    · rename_i hle
      refine List.pairwise_cons.2 ⟨fun x hx => ?_, insG_sorted tb v h'.2 (fun x hx => ht x (List.mem_cons_of_mem _ hx))⟩
      rcases List.mem_cons.1 ((insG_perm tb v r).mem_iff.1 hx) with e | e
      · subst e
        have := ht q List.mem_cons_self
        simp only [lx, decide_eq_false_iff_not]
        omega
      · exact h'.1 x e
    · rename_i hle
      refine List.pairwise_cons.2 ⟨fun x hx => ?_, h⟩
      rcases List.mem_cons.1 hx with e | e
      · subst e; simp only [lx, decide_eq_false_iff_not]; omega
      · have := h'.1 x e
        simp only [lx, decide_eq_false_iff_not] at this ⊢
        omega
theorem stG_all (tb : List Int) : ∀ (l acc : List Tg), acc.Pairwise (fun x y => lx (rk tb) y x = false) → (∀ x ∈ acc, ∀ y ∈ l, x.2 < y.2) → l.Pairwise (fun x y => x.2 < y.2) →
    (l.foldl (fun acc v => insG tb v acc) acc).Pairwise (fun x y => lx (rk tb) y x = false) ∧ (l.foldl (fun acc v => insG tb v acc) acc).Perm (acc ++ l) ∧ (l.foldl (fun acc v => insG tb v acc) acc).map (·.1) = (l.map (·.1)).foldl (fun acc v => insR tb v acc) (acc.map (·.1)) := by
  intro l
  induction l with
  | nil => intro acc h _ _; exact ⟨h, by simp, rfl⟩
  | cons z l ih =>
    intro acc h h2 h3
    have h3' := List.pairwise_cons.1 h3
    obtain ⟨a1, a2, a3⟩ := ih (insG tb z acc) (insG_sorted tb z h (fun x hx => h2 x hx z List.mem_cons_self)) (fun x hx y hy => by
      rcases List.mem_cons.1 ((insG_perm tb z acc).mem_iff.1 hx) with e | e
      · subst e; exact h3'.1 y hy
      · exact h2 x e y (List.mem_cons_of_mem _ hy)) h3'.2
    refine ⟨a1, a2.trans (((insG_perm tb z acc).append_right l).trans List.perm_middle.symm), ?_⟩
    simp only [List.foldl_cons, List.map_cons]
    rw [a3, insG_map]

/-- Numbers with their places. -/
def tagged (xs : List Int) : Array Tg := xs.zipIdx.toArray
theorem tagged_size (xs : List Int) : (tagged xs).size = xs.length := by simp [tagged]
theorem tagged_at (xs : List Int) (i : Nat) (hi : i < xs.length) : (tagged xs)[i]! = (xs[i], i) := by
  rw [getElem!_pos (tagged xs) i (by rw [tagged_size]; exact hi)]
  simp [tagged]
theorem tagged_map (xs : List Int) : (tagged xs).toList.map (·.1) = xs := by
  refine List.ext_getElem (by simp [tagged]) (fun i h1 h2 => ?_)
  simp [tagged]
theorem tagged_rise (xs : List Int) : (tagged xs).toList.Pairwise (fun x y => x.2 < y.2) := by
  rw [List.pairwise_iff_getElem]
  intro i j hi hj hij
  simpa [tagged] using hij
/-- What is sorted by rank and then by number is the stable sort. -/
theorem stable_list (tb xs : List Int) (d' : Array Tg) (hp : PermIn 0 (tagged xs).size (tagged xs) d') (hs : SortedIn (lx (rk tb)) 0 (tagged xs).size d') : d'.toList.map (·.1) = stb tb xs := by
  obtain ⟨g1, g2, g3⟩ := stG_all tb (tagged xs).toList [] List.Pairwise.nil (fun x hx => by cases hx) (tagged_rise xs)
  have hperm : d'.toList.Perm (tagged xs).toList := by
    have h := hp.2.2
    rw [show d'.extract 0 (tagged xs).size = d' by rw [← hp.1]; simp, show (tagged xs).extract 0 (tagged xs).size = tagged xs by simp] at h
    exact h
  have hso : d'.toList.Pairwise (fun x y => lx (rk tb) y x = false) := by
    rw [List.pairwise_iff_getElem]
    intro i j hi hj hij
    have hi' : i < d'.size := by simpa using hi
    have hj' : j < d'.size := by simpa using hj
    have h := hs i j (Nat.zero_le _) hij (by rw [← hp.1]; exact hj')
    rw [getElem!_pos d' j hj', getElem!_pos d' i hi'] at h
    simpa using h
  have heq := List.Perm.eq_of_pairwise (le := fun x y => lx (rk tb) y x = false) (fun a b ha hb h1 h2 => by
    have ha' := hperm.mem_iff.1 ha
    have hb' := (g2.mem_iff.1 hb)
    rw [List.nil_append] at hb'
    have ht : a.2 = b.2 := by simp only [lx, decide_eq_false_iff_not] at h1 h2; omega
    obtain ⟨i, hi, ei⟩ := List.getElem_of_mem ha'
    obtain ⟨j, hj, ej⟩ := List.getElem_of_mem hb'
    have hr := List.pairwise_iff_getElem.1 (tagged_rise xs)
    rcases Nat.lt_trichotomy i j with hij | hij | hij
    · have := hr i j hi hj hij; rw [ei, ej] at this; omega
    · subst hij; exact ei.symm.trans ej
    · have := hr j i hj hi hij; rw [ei, ej] at this; omega) hso g1 (hperm.trans (by rw [List.nil_append] at g2; exact g2.symm))
  rw [heq, g3, tagged_map]
  rfl

end Go.Proofs.Ytpnlindmcomikaa
