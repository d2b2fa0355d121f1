/-
  Plain laws of a stable sort by merging in place: elements with a number, ordered by a rank and then by the number. No statement is proved here.
-/
import Derived.Sort.LotA
namespace Go.Proofs.Ytpnlindmcomikaa
open Go.Sort

/-- An element with its number. -/
abbrev Tg : Type := Int × Nat

section
variable (r : Int → Int)
/-- Less by rank. -/
def ltR (x y : Tg) : Bool := decide (r x.1 < r y.1)
/-- Less by rank, then by number. -/
def lx (x y : Tg) : Bool := decide (r x.1 < r y.1 ∨ (r x.1 = r y.1 ∧ x.2 < y.2))
theorem swo_lx : SWO (lx r) where
  irrefl x := by simp [lx]
  trans x y z h1 h2 := by simp only [lx, decide_eq_true_eq] at *; omega
  ntrans x y z h1 h2 := by simp only [lx, decide_eq_false_iff_not] at *; omega
variable {r}
theorem lx_of_lt {x y : Tg} (h : ltR r x y = true) : lx r y x = false := by
  simp only [ltR, lx, decide_eq_true_eq, decide_eq_false_iff_not] at *; omega
theorem lx_of_not {x y : Tg} (h : ltR r x y = false) (ht : y.2 < x.2) : lx r x y = false := by
  simp only [ltR, lx, decide_eq_false_iff_not] at *; omega
theorem lx_eq_lt {x y : Tg} (ht : y.2 < x.2) : lx r x y = ltR r x y := by
  simp only [ltR, lx]
  congr 1
  apply propext
  omega

/-- Every number to the left of m is less than every one to the right. -/
def Tags (a m b : Nat) (d : Array Tg) : Prop := ∀ i j, a ≤ i → i < m → m ≤ j → j < b → (d[i]!).2 < (d[j]!).2

theorem sortedIn_cross {a m b : Nat} {d : Array Tg} (h1 : SortedIn (lx r) a m d) (h2 : SortedIn (lx r) m b d) (hb : a < m → m < b → lx r d[m]! d[m - 1]! = false)
    (i j : Nat) (hi : a ≤ i) (him : i < m) (hj : m ≤ j) (hjb : j < b) : lx r d[j]! d[i]! = false := by
  have e1 : lx r d[j]! d[m]! = false := by
    by_cases e : j = m
    · subst e; exact (swo_lx r).irrefl _
    · exact h2 m j (Nat.le_refl _) (by omega) hjb
  have e2 : lx r d[m - 1]! d[i]! = false := by
    by_cases e : i = m - 1
    · subst e; exact (swo_lx r).irrefl _
    · exact h1 i (m - 1) hi (by omega) (by omega)
  exact (swo_lx r).ntrans _ _ _ e1 ((swo_lx r).ntrans _ _ _ (hb (by omega) (by omega)) e2)
theorem sortedIn_join {a m b : Nat} {d : Array Tg} (h1 : SortedIn (lx r) a m d) (h2 : SortedIn (lx r) m b d) (hc : ∀ i j, a ≤ i → i < m → m ≤ j → j < b → lx r d[j]! d[i]! = false) : SortedIn (lx r) a b d := by
  intro i j hi hij hj
  by_cases him : i < m
  · by_cases hjm : j < m
    · exact h1 i j hi hij hjm
    · exact hc i j hi him (by omega) hj
  · exact h2 i j (by omega) hij hj
theorem sortedIn_seam {a m b : Nat} {d : Array Tg} (h1 : SortedIn (lx r) a m d) (h2 : SortedIn (lx r) m b d) (hb : a < m → m < b → lx r d[m]! d[m - 1]! = false) : SortedIn (lx r) a b d :=
  sortedIn_join h1 h2 (sortedIn_cross h1 h2 hb)
theorem sortedIn_one {a b : Nat} {d : Array Tg} (h : b ≤ a + 1) : SortedIn (lx r) a b d := fun i j hi hij hj => by omega

/-! ### The insertion sort keeps the order of equals -/
theorem insInner_lx (a : Nat) : ∀ (j : Nat) (d : Array Tg), j < d.size → (∀ k, a ≤ k → k < j → (d[k]!).2 < (d[j]!).2) → insInner (ltR r) a j d = insInner (lx r) a j d
  | 0, d, _, _ => rfl
  | j + 1, d, hj, ht => by
    unfold insInner
    by_cases ha : a ≤ j
    · have e := lx_eq_lt (r := r) (ht j ha (Nat.lt_succ_self j))
      rw [e]
      split
      · refine insInner_lx a j _ (by rw [swp_size]; omega) (fun k hk hkj => ?_)
        rw [swp_get d hj (by omega), swp_get d hj (by omega), if_neg (by omega), if_neg (by omega), if_pos rfl]
        exact ht k hk (by omega)
      · rfl
    · have e : decide (j + 1 > a) = false := decide_eq_false (by omega)
      rw [e, Bool.false_and, Bool.false_and]
      rfl
theorem insOuter_lx (a b : Nat) : ∀ (n i : Nat) (d : Array Tg), b - i = n → a < i → i ≤ b → b ≤ d.size → SortedIn (lx r) a i d → (∀ k m, a ≤ k → k < m → i ≤ m → m < b → (d[k]!).2 < (d[m]!).2) → insOuter (ltR r) a b i d = insOuter (lx r) a b i d
  | 0, i, d, hn, _, hib, _, _, _ => by
    rw [insOuter, if_neg (by omega), insOuter, if_neg (by omega)]
  | n + 1, i, d, hn, hai, hib, hb, hs, ht => by
    have hlt : i < b := by omega
    rw [insOuter.eq_1 (ltR r), if_pos hlt, insOuter.eq_1 (lx r), if_pos hlt, insInner_lx a i d (by omega) (fun k hk hki => ht k i hk hki (Nat.le_refl _) hlt)]
    have h1 := insInner_spec (swo_lx r) swp_permIn permIn_refl permIn_trans a (i + 1) i (Nat.lt_succ_self i) i d (by omega) (Nat.le_refl _) (by omega) ⟨fun p q hap hpq hqi _ hq => hs p q hap hpq (by omega), fun q h1 h2 => by omega⟩
    refine insOuter_lx a b n (i + 1) _ (by omega) (by omega) (by omega) (by rw [h1.1.1]; exact hb) h1.2 (fun k m hk hkm him hmb => ?_)
    rw [h1.1.2.1 m (Or.inr him)]
    by_cases hki : k < i + 1
    · exact permIn_all d _ a (i + 1) (fun x => x.2 < (d[m]!).2) (by omega) h1.1 (fun k' hk' hki' => ht k' m hk' (by omega) (by omega) hmb) k hk hki
    · rw [h1.1.2.1 k (Or.inr (by omega))]
      exact ht k m hk hkm (by omega) hmb
theorem insertion_stable (d : Array Tg) (a b : Nat) (hab : a ≤ b) (hb : b ≤ d.size) (ht : ∀ k m, a ≤ k → k < m → m < b → (d[k]!).2 < (d[m]!).2) :
    PermIn a b d (insertionSort (ltR r) d a b) ∧ SortedIn (lx r) a b (insertionSort (ltR r) d a b) := by
  have e : insertionSort (ltR r) d a b = insertionSort (lx r) d a b := by
    unfold insertionSort
    by_cases h : a = b
    · subst h
      rw [insOuter, if_neg (by omega), insOuter, if_neg (by omega)]
    · exact insOuter_lx a b _ (a + 1) d rfl (by omega) (by omega) hb (fun i j h1 h2 h3 => by omega) (fun k m hk hkm _ hm => ht k m hk hkm hm)
  rw [e]
  exact insertionSort_holds (swo_lx r) d a b hab hb
end

/-! ### Two parts put the other way round -/
/-- d' is d with the parts [a, m) and [m, b) put the other way round. -/
structure Rot (a m b : Nat) (d d' : Array Tg) : Prop where
  size : d'.size = d.size
  out : ∀ k, k < a ∨ b ≤ k → d'[k]! = d[k]!
  low : ∀ k, a ≤ k → k < a + (b - m) → d'[k]! = d[k + (m - a)]!
  high : ∀ k, a + (b - m) ≤ k → k < b → d'[k]! = d[k - (b - m)]!
theorem rot_left (a b : Nat) (d : Array Tg) : Rot a a b d d := ⟨rfl, fun _ _ => rfl, fun k _ _ => by rw [Nat.sub_self]; rfl, fun k h1 h2 => by omega⟩
theorem rot_right (a b : Nat) (d : Array Tg) : Rot a b b d d := ⟨rfl, fun _ _ => rfl, fun k h1 h2 => by omega, fun k _ _ => by rw [Nat.sub_self]; rfl⟩
theorem Rot.perm {a m b : Nat} {d d' : Array Tg} (h : Rot a m b d d') (ham : a ≤ m) (hmb : m ≤ b) (hb : b ≤ d.size) : PermIn a b d d' := by
  refine ⟨h.size, h.out, ?_⟩
  rw [extract_toList d' a b (by rw [h.size]; exact hb), extract_toList d a b hb]
  have e1 : List.range' a (b - a) = List.range' a (b - m) ++ List.range' (a + (b - m)) (m - a) := by
    rw [List.range'_append_1]
    congr 1
    omega
  have e2 : List.range' a (b - a) = List.range' a (m - a) ++ List.range' m (b - m) := by
    have := List.range'_append_1 (s := a) (m := m - a) (n := b - m)
    rw [show a + (m - a) = m by omega, show m - a + (b - m) = b - a by omega] at this
    exact this.symm
  have f1 : (List.range' a (b - m)).map (fun i => d'[i]!) = (List.range' m (b - m)).map (fun i => d[i]!) := by
    refine List.ext_getElem (by simp) (fun k h1 h2 => ?_)
    simp only [List.length_map, List.length_range'] at h1
    simp only [List.getElem_map, List.getElem_range', Nat.one_mul]
    rw [h.low (a + k) (by omega) (by omega)]
    congr 1
    omega
  have f2 : (List.range' (a + (b - m)) (m - a)).map (fun i => d'[i]!) = (List.range' a (m - a)).map (fun i => d[i]!) := by
    refine List.ext_getElem (by simp) (fun k h1 h2 => ?_)
    simp only [List.length_map, List.length_range'] at h1
    simp only [List.getElem_map, List.getElem_range', Nat.one_mul]
    rw [h.high (a + (b - m) + k) (by omega) (by omega)]
    congr 1
    omega
  rw [show (List.range' a (b - a)).map (fun i => d'[i]!) = (List.range' m (b - m)).map (fun i => d[i]!) ++ (List.range' a (m - a)).map (fun i => d[i]!) by rw [e1, List.map_append, f1, f2], e2, List.map_append]
  exact List.perm_append_comm

/-- d' is d with the n places from a on and those from b on exchanged. -/
structure Swr (a b n : Nat) (d d' : Array Tg) : Prop where
  size : d'.size = d.size
  out : ∀ k, (k < a ∨ a + n ≤ k) → (k < b ∨ b + n ≤ k) → d'[k]! = d[k]!
  low : ∀ k, a ≤ k → k < a + n → d'[k]! = d[k + (b - a)]!
  high : ∀ k, b ≤ k → k < b + n → d'[k]! = d[k - (b - a)]!
theorem swr_none (a b : Nat) (d : Array Tg) : Swr a b 0 d d := ⟨rfl, fun _ _ _ => rfl, fun k h1 h2 => by omega, fun k h1 h2 => by omega⟩
theorem Swr.step {a b n : Nat} {d d' : Array Tg} (h : Swr a b n d d') (hab : a + n < b) (hb : b + n < d.size) : Swr a b (n + 1) d (swp d' (a + n) (b + n)) := by
  have g := swp_get d' (i := a + n) (j := b + n) (by rw [h.size]; omega) (by rw [h.size]; omega)
  refine ⟨(swp_size _ _ _).trans h.size, fun k h1 h2 => ?_, fun k h1 h2 => ?_, fun k h1 h2 => ?_⟩
  · rw [g, if_neg (by omega), if_neg (by omega)]
    exact h.out k (by omega) (by omega)
  · rw [g, if_neg (by omega)]
    by_cases e : k = a + n
    · subst e
      rw [if_pos rfl, h.out (b + n) (by omega) (by omega)]
      congr 1
      omega
    · rw [if_neg e]
      exact h.low k h1 (by omega)
  · rw [g]
    by_cases e : k = b + n
    · subst e
      rw [if_pos rfl, h.out (a + n) (by omega) (by omega)]
      congr 1
      omega
    · rw [if_neg e, if_neg (by omega)]
      exact h.high k h1 (by omega)
theorem Swr.rot {a m n : Nat} {d d' : Array Tg} (h : Swr a m n d d') (ha : a + n = m) : Rot a m (m + n) d d' :=
  ⟨h.size, fun k hk => h.out k (by omega) (by omega), fun k h1 h2 => h.low k h1 (by omega), fun k h1 h2 => by rw [h.high k (by omega) (by omega)]; congr 1; omega⟩
/-- One round of the rotation: the left part is the longer one. -/
theorem Rot.more {i j m : Nat} {d d1 d' : Array Tg} (hi : i ≤ m) (hj : j < i) (h : Swr (m - i) m j d d1) (k : Rot (m - (i - j)) m (m + j) d1 d') : Rot (m - i) m (m + j) d d' := by
  refine ⟨k.size.trans h.size, fun t ht => ?_, fun t h1 h2 => ?_, fun t h1 h2 => ?_⟩
  · rw [k.out t (by omega), h.out t (by omega) (by omega)]
  · rw [k.out t (by omega), h.low t h1 (by omega)]
  · by_cases ht : t < m - i + j + j
    · rw [k.low t (by omega) (by omega), h.high _ (by omega) (by omega)]
      congr 1
      omega
    · rw [k.high t (by omega) h2, h.out _ (by omega) (by omega)]
/-- The right part is the longer one. -/
theorem Rot.less {i j m : Nat} {d d1 d' : Array Tg} (hi : i ≤ m) (hj : i < j) (h : Swr (m - i) (m + j - i) i d d1) (k : Rot (m - i) m (m + (j - i)) d1 d') : Rot (m - i) m (m + j) d d' := by
  refine ⟨k.size.trans h.size, fun t ht => ?_, fun t h1 h2 => ?_, fun t h1 h2 => ?_⟩
  · rw [k.out t (by omega), h.out t (by omega) (by omega)]
  · by_cases ht : t < m - i + (j - i)
    · rw [k.low t h1 (by omega), h.out _ (by omega) (by omega)]
    · rw [k.high t (by omega) (by omega), h.low _ (by omega) (by omega)]
      congr 1
      omega
  · rw [k.out t (by omega), h.high t (by omega) (by omega)]
    congr 1
    omega
/-- One element led upwards. -/
theorem Rot.up {a k : Nat} {d d' : Array Tg} (h : Rot a (a + 1) (k + 1) d d') (hak : a ≤ k) (hk : k + 1 < d.size) : Rot a (a + 1) (k + 1 + 1) d (swp d' k (k + 1)) := by
  have g := swp_get d' (i := k) (j := k + 1) (by rw [h.size]; omega) (by rw [h.size]; omega)
  refine ⟨(swp_size _ _ _).trans h.size, fun t ht => ?_, fun t h1 h2 => ?_, fun t h1 h2 => ?_⟩
  · rw [g, if_neg (by omega), if_neg (by omega)]
    exact h.out t (by omega)
  · rw [g, if_neg (by omega)]
    by_cases e : t = k
    · subst e
      rw [if_pos rfl, h.out (t + 1) (by omega)]
      congr 1
      omega
    · rw [if_neg e]
      exact h.low t h1 (by omega)
  · rw [g, if_pos (by omega), h.high k (by omega) (by omega)]
    congr 1
    omega
/-- One element led downwards. -/
theorem Rot.down {m k : Nat} {d d' : Array Tg} (h : Rot (k + 1) m (m + 1) d d') (hk : k + 1 ≤ m) (hm : m < d.size) : Rot k m (m + 1) d (swp d' (k + 1) k) := by
  have g := swp_get d' (i := k + 1) (j := k) (by rw [h.size]; omega) (by rw [h.size]; omega)
  refine ⟨(swp_size _ _ _).trans h.size, fun t ht => ?_, fun t h1 h2 => ?_, fun t h1 h2 => ?_⟩
  · rw [g, if_neg (by omega), if_neg (by omega)]
    exact h.out t (by omega)
  · rw [g, if_pos (by omega), h.low (k + 1) (by omega) (by omega)]
    congr 1
    omega
  · rw [g, if_neg (by omega)]
    by_cases e : t = k + 1
    · subst e
      rw [if_pos rfl, h.out k (by omega)]
      congr 1
      omega
    · rw [if_neg e, h.high t (by omega) h2]

/-! ### The merge -/
section
variable {r : Int → Int}
/-- What lies where behind the rotation of a merge. -/
structure Split (r : Int → Int) (a s mid e b : Nat) (d : Array Tg) : Prop where
  s1 : SortedIn (lx r) a s d
  s2 : SortedIn (lx r) s mid d
  s3 : SortedIn (lx r) mid e d
  s4 : SortedIn (lx r) e b d
  cross : ∀ i j, a ≤ i → i < mid → mid ≤ j → j < b → lx r d[j]! d[i]! = false
  t1 : Tags a s mid d
  t2 : Tags mid e b d
theorem Rot.split {a s m e b : Nat} {d d1 : Array Tg} (R : Rot s m e d d1) (has : a ≤ s) (hsm : s ≤ m) (hme : m ≤ e) (heb : e ≤ b) (hA : SortedIn (lx r) a m d) (hB : SortedIn (lx r) m b d) (hT : Tags a m b d)
    (c1 : a < s → e < b → ltR r d[e]! d[s - 1]! = false) (c2 : s < m → m < e → ltR r d[e - 1]! d[s]! = true) : Split r a s (s + (e - m)) e b d1 := by
  have ir := (swo_lx r).irrefl
  have nt := (swo_lx r).ntrans
  have lA : ∀ i j, a ≤ i → i ≤ j → j < m → lx r d[j]! d[i]! = false := fun i j hi hij hj => by
    by_cases h : i = j
    · subst h; exact ir _
    · exact hA i j hi (by omega) hj
  have lB : ∀ i j, m ≤ i → i ≤ j → j < b → lx r d[j]! d[i]! = false := fun i j hi hij hj => by
    by_cases h : i = j
    · subst h; exact ir _
    · exact hB i j hi (by omega) hj
  refine ⟨fun i j hi hij hj => ?_, fun i j hi hij hj => ?_, fun i j hi hij hj => ?_, fun i j hi hij hj => ?_, fun i j hi him hj hjb => ?_, fun i j hi him hj hjb => ?_, fun i j hi him hj hjb => ?_⟩
  · rw [R.out i (by omega), R.out j (by omega)]; exact hA i j hi hij (by omega)
  · rw [R.low i (by omega) (by omega), R.low j (by omega) (by omega)]; exact hB _ _ (by omega) (by omega) (by omega)
  · rw [R.high i (by omega) (by omega), R.high j (by omega) (by omega)]; exact hA _ _ (by omega) (by omega) (by omega)
  · rw [R.out i (by omega), R.out j (by omega)]; exact hB i j (by omega) hij hj
  · by_cases h1 : i < s
    · rw [R.out i (by omega)]
      by_cases h2 : j < e
      · rw [R.high j (by omega) h2]
        exact lA _ _ hi (by omega) (by omega)
      · rw [R.out j (by omega)]
        exact nt _ _ _ (lB e j (by omega) (by omega) hjb) (nt _ _ _ (lx_of_not (c1 (by omega) (by omega)) (hT (s - 1) e (by omega) (by omega) (by omega) (by omega))) (lA i (s - 1) hi (by omega) (by omega)))
    · rw [R.low i (by omega) him]
      by_cases h2 : j < e
      · rw [R.high j (by omega) h2]
        exact nt _ _ _ (lA s _ (by omega) (by omega) (by omega)) (nt _ _ _ (lx_of_lt (c2 (by omega) (by omega))) (lB _ (e - 1) (by omega) (by omega) (by omega)))
      · rw [R.out j (by omega)]
        exact lB _ _ (by omega) (by omega) hjb
  · rw [R.out i (by omega), R.low j (by omega) (by omega)]; exact hT _ _ hi (by omega) (by omega) (by omega)
  · rw [R.high i (by omega) (by omega), R.out j (by omega)]; exact hT _ _ (by omega) (by omega) (by omega) hjb

/-- Both halves sorted, the whole is. -/
theorem halves {a mid b : Nat} {d1 d2 d3 : Array Tg} (ham : a ≤ mid) (hmb : mid ≤ b) (hb : b ≤ d1.size) (hc : ∀ i j, a ≤ i → i < mid → mid ≤ j → j < b → lx r d1[j]! d1[i]! = false)
    (p2 : PermIn a mid d1 d2) (s2 : SortedIn (lx r) a mid d2) (p3 : PermIn mid b d2 d3) (s3 : SortedIn (lx r) mid b d3) : PermIn a b d1 d3 ∧ SortedIn (lx r) a b d3 := by
  have hb2 : b ≤ d2.size := by rw [p2.1]; exact hb
  refine ⟨permIn_trans _ _ _ _ _ (permIn_mono d1 d2 a mid a b (Nat.le_refl _) hmb hb p2) (permIn_mono d2 d3 mid b a b ham (Nat.le_refl _) hb2 p3), ?_⟩
  refine sortedIn_join (fun i j hi hij hj => ?_) s3 (fun i j hi him hj hjb => ?_)
  · rw [p3.2.1 i (Or.inl (by omega)), p3.2.1 j (Or.inl (by omega))]
    exact s2 i j hi hij hj
  · rw [p3.2.1 i (Or.inl him)]
    refine permIn_all d2 d3 mid b (fun x => lx r x d2[i]! = false) hb2 p3 (fun j' hj' hjb' => ?_) j hj hjb
    rw [p2.2.1 j' (Or.inr hj')]
    exact permIn_all d1 d2 a mid (fun x => lx r d1[j']! x = false) (by omega) p2 (fun i' hi' him' => hc i' j' hi' him' hj' hjb') i hi him

/-- What a merge leaves. -/
def Merged (r : Int → Int) (a b : Nat) (d d' : Array Tg) : Prop := PermIn a b d d' ∧ SortedIn (lx r) a b d'
/-- The left part is one element. -/
theorem merged_up {a i b : Nat} {d d' : Array Tg} (hi : a + 1 ≤ i) (hib : i ≤ b) (hb : b ≤ d.size) (R : Rot a (a + 1) i d d') (hB : SortedIn (lx r) (a + 1) b d) (hT : Tags a (a + 1) b d)
    (c1 : i < b → ltR r d[i]! d[a]! = false) (c2 : a + 1 < i → ltR r d[i - 1]! d[a]! = true) : Merged r a b d d' := by
  have S := R.split (r := r) (Nat.le_refl a) (by omega) hi hib (sortedIn_one (by omega)) hB hT (fun h => by omega) (fun _ h => c2 h)
  refine ⟨permIn_mono d d' a i a b (Nat.le_refl _) hib hb (R.perm (by omega) hi (by omega)), sortedIn_join S.s2 (sortedIn_seam S.s3 S.s4 (fun h1 h2 => ?_)) S.cross⟩
  rw [R.out i (by omega), R.high (i - 1) (by omega) (by omega), show i - 1 - (i - (a + 1)) = a by omega]
  exact lx_of_not (c1 h2) (hT a i (by omega) (by omega) (by omega) h2)
/-- The right part is one element. -/
theorem merged_down {a i m : Nat} {d d' : Array Tg} (hi : a ≤ i) (him : i ≤ m) (hb : m + 1 ≤ d.size) (R : Rot i m (m + 1) d d') (hA : SortedIn (lx r) a m d) (hT : Tags a m (m + 1) d)
    (c1 : a < i → ltR r d[m]! d[i - 1]! = false) (c2 : i < m → ltR r d[m]! d[i]! = true) : Merged r a (m + 1) d d' := by
  have S := R.split (r := r) hi him (by omega) (Nat.le_refl _) hA (sortedIn_one (by omega)) hT (fun _ h => by omega) (fun h _ => c2 h)
  have e : i + (m + 1 - m) = i + 1 := by omega
  rw [e] at S
  refine ⟨permIn_mono d d' i (m + 1) a (m + 1) hi (Nat.le_refl _) hb (R.perm him (by omega) hb), sortedIn_join (sortedIn_seam S.s1 S.s2 (fun h1 h2 => ?_)) S.s3 S.cross⟩
  rw [R.low i (by omega) (by omega), R.out (i - 1) (by omega), show i + (m - i) = m by omega]
  exact lx_of_not (c1 h1) (hT (i - 1) m (by omega) (by omega) (by omega) (by omega))

/-! ### Blocks -/
/-- The part [p, q) is sorted and has the numbers from p up to q. -/
structure Good (r : Int → Int) (p q : Nat) (d : Array Tg) : Prop where
  sorted : SortedIn (lx r) p q d
  tags : ∀ i, p ≤ i → i < q → p ≤ (d[i]!).2 ∧ (d[i]!).2 < q
theorem Good.same {p q : Nat} {d d' : Array Tg} (h : Good r p q d) (e : ∀ i, p ≤ i → i < q → d'[i]! = d[i]!) : Good r p q d' :=
  ⟨fun i j hi hij hj => by rw [e i hi (by omega), e j (by omega) hj]; exact h.sorted i j hi hij hj, fun i hi hj => by rw [e i hi hj]; exact h.tags i hi hj⟩
theorem Good.two {p m q : Nat} {d : Array Tg} (h : Good r p m d) (k : Good r m q d) : Tags p m q d := fun i j hi him hj hjq => by
  have := h.tags i hi him
  have := k.tags j hj hjq
  omega
theorem Good.merged {p m q : Nat} {d d' : Array Tg} (hpm : p ≤ m) (hmq : m ≤ q) (hq : q ≤ d.size) (h : Good r p m d) (k : Good r m q d) (M : Merged r p q d d') : Good r p q d' := by
  refine ⟨M.2, permIn_all d d' p q (fun x => p ≤ x.2 ∧ x.2 < q) hq M.1 (fun i hi hiq => ?_)⟩
  by_cases him : i < m
  · have := h.tags i hi him; omega
  · have := k.tags i (by omega) hiq; omega
/-- The blocks of a size from p on. -/
inductive Chain (r : Int → Int) (bs n : Nat) (d : Array Tg) : Nat → Prop
  | stop {p : Nat} : n ≤ p → Chain r bs n d p
  | step {p : Nat} : Good r p (min (p + bs) n) d → Chain r bs n d (p + bs) → Chain r bs n d p
/-- The whole blocks of a size up to p. -/
inductive Front (r : Int → Int) (bs : Nat) (d : Array Tg) : Nat → Prop
  | none : Front r bs d 0
  | step {p : Nat} : Front r bs d p → Good r p (p + bs) d → Front r bs d (p + bs)
theorem Chain.same {bs n p : Nat} {d d' : Array Tg} (h : Chain r bs n d p) : (∀ i, p ≤ i → d'[i]! = d[i]!) → Chain r bs n d' p := by
  induction h with
  | stop h => exact fun _ => .stop h
  | step h _ ih => exact fun e => .step (h.same (fun i hi _ => e i hi)) (ih (fun i hi => e i (by omega)))
theorem Front.same {bs p : Nat} {d d' : Array Tg} (h : Front r bs d p) : (∀ i, i < p → d'[i]! = d[i]!) → Front r bs d' p := by
  induction h with
  | none => exact fun _ => .none
  | step _ h ih => exact fun e => .step (ih (fun i hi => e i (by omega))) (h.same (fun i _ hi => e i hi))
theorem Front.join {bs n p : Nat} {d : Array Tg} (h : Front r bs d p) : p ≤ n → Chain r bs n d p → Chain r bs n d 0 := by
  induction h with
  | none => exact fun _ k => k
  | step _ h ih => exact fun hn k => ih (by omega) (.step (by rw [Nat.min_eq_left hn]; exact h) k)
theorem Chain.first {bs n p : Nat} {d : Array Tg} (h : Chain r bs n d p) (hp : p < n) : Good r p (min (p + bs) n) d ∧ Chain r bs n d (p + bs) := by
  cases h with
  | stop h => omega
  | step h k => exact ⟨h, k⟩
theorem Chain.whole {bs n : Nat} {d : Array Tg} (h : Chain r bs n d 0) (hb : n ≤ bs) : SortedIn (lx r) 0 n d := by
  by_cases hn : 0 < n
  · have := (h.first hn).1.sorted
    rwa [Nat.zero_add, Nat.min_eq_right hb] at this
  · exact fun i j _ _ hj => by omega
/-- A merge of two blocks in the middle. -/
theorem blocks_two {bs n a : Nat} {d d' : Array Tg} (hn : n ≤ d.size) (h2 : a + 2 * bs ≤ n) (hbs : 0 < bs) (F : Front r (2 * bs) d a) (C : Chain r bs n d a) (M : Merged r a (a + 2 * bs) d d') : Front r (2 * bs) d' (a + 2 * bs) ∧ Chain r bs n d' (a + 2 * bs) := by
  obtain ⟨g1, C1⟩ := C.first (by omega)
  obtain ⟨g2, C2⟩ := C1.first (by omega)
  rw [Nat.min_eq_left (by omega)] at g1 g2
  rw [show a + bs + bs = a + 2 * bs by omega] at g2 C2
  exact ⟨.step (F.same (fun i hi => M.1.2.1 i (Or.inl hi))) (Good.merged (by omega) (by omega) (by omega) g1 g2 M), C2.same (fun i hi => M.1.2.1 i (Or.inr hi))⟩
theorem blocks_tags {bs n a q : Nat} {d : Array Tg} (hq : q = min (a + 2 * bs) n) (h2 : a + bs < n) (C : Chain r bs n d a) : SortedIn (lx r) a (a + bs) d ∧ SortedIn (lx r) (a + bs) q d ∧ Tags a (a + bs) q d := by
  obtain ⟨g1, C1⟩ := C.first (by omega)
  obtain ⟨g2, _⟩ := C1.first (by omega)
  rw [Nat.min_eq_left (by omega)] at g1
  rw [show a + bs + bs = a + 2 * bs by omega, ← hq] at g2
  exact ⟨g1.sorted, g2.sorted, g1.two g2⟩
/-- A merge of the last two blocks. -/
theorem blocks_last {bs n a : Nat} {d d' : Array Tg} (hn : n ≤ d.size) (h2 : n < a + 2 * bs) (hm : a + bs < n) (F : Front r (2 * bs) d a) (C : Chain r bs n d a) (M : Merged r a n d d') : Chain r (2 * bs) n d' 0 := by
  obtain ⟨g1, C1⟩ := C.first (by omega)
  obtain ⟨g2, _⟩ := C1.first (by omega)
  rw [Nat.min_eq_left (by omega)] at g1
  rw [Nat.min_eq_right (by omega)] at g2
  refine (F.same (fun i hi => M.1.2.1 i (Or.inl hi))).join (by omega) (.step ?_ (.stop (by omega)))
  rw [Nat.min_eq_right (by omega)]
  exact Good.merged (by omega) (by omega) hn g1 g2 M
/-- No second block is left. -/
theorem blocks_rest {bs n a : Nat} {d : Array Tg} (ha : a ≤ n) (hm : n ≤ a + bs) (F : Front r (2 * bs) d a) (C : Chain r bs n d a) : Chain r (2 * bs) n d 0 := by
  refine F.join ha ?_
  by_cases h : a < n
  · have := (C.first h).1
    refine .step ?_ (.stop (by omega))
    rw [Nat.min_eq_right (by omega)] at this ⊢
    exact this
  · exact .stop (by omega)
/-- The blocks of the first pass. -/
theorem front_step {bs a : Nat} {d d' : Array Tg} (F : Front r bs d a) (hb : a + bs ≤ d.size) (ht : ∀ i, a ≤ i → i < d.size → (d[i]!).2 = i) (P : PermIn a (a + bs) d d') (S : SortedIn (lx r) a (a + bs) d') :
    Front r bs d' (a + bs) ∧ ∀ i, a + bs ≤ i → i < d'.size → (d'[i]!).2 = i := by
  refine ⟨.step (F.same (fun i hi => P.2.1 i (Or.inl hi))) ⟨S, permIn_all d d' a (a + bs) (fun x => a ≤ x.2 ∧ x.2 < a + bs) hb P (fun i hi hib => ?_)⟩, fun i hi hid => ?_⟩
  · rw [ht i hi (by omega)]; omega
  · rw [P.2.1 i (Or.inr hi)]
    exact ht i (by omega) (by rw [← P.1]; exact hid)
theorem front_last {bs a : Nat} {d d' : Array Tg} (F : Front r bs d a) (ha : a ≤ d.size) (hb : d.size < a + bs) (ht : ∀ i, a ≤ i → i < d.size → (d[i]!).2 = i) (P : PermIn a d.size d d') (S : SortedIn (lx r) a d.size d') : Chain r bs d.size d' 0 := by
  refine (F.same (fun i hi => P.2.1 i (Or.inl hi))).join ha ?_
  refine .step ⟨?_, ?_⟩ (.stop (by omega))
  · rw [Nat.min_eq_right (by omega)]; exact S
  · rw [Nat.min_eq_right (by omega)]
    exact permIn_all d d' a d.size (fun x => a ≤ x.2 ∧ x.2 < d.size) (Nat.le_refl _) P (fun i hi hib => by rw [ht i hi hib]; omega)
end

end Go.Proofs.Ytpnlindmcomikaa
