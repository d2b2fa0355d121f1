/-
  slices.pdqsortOrdered, slices.Sort at float64. No statement is proved here.
-/
import Derived.Test.YtlibakmllogcdaaFsIns
import Derived.Test.YtlibakmllogcdaaFsHeap
import Derived.Deep.Cut
import Derived.Test.YtlibakmllogcdaaFsPivot
import Derived.Test.YtlibakmllogcdaaFsPart
import Derived.Test.YtlibakmllogcdaaFsBreak
import Derived.Test.YtlibakmllogcdaaFsPartial
namespace Go.Proofs.Ytlibakmllogcdaa
open Go.RowKit Go.Shelf Go.Sort Go.Lib

/-- What is sorted in [a, b) is, of what lies in [a0, b0), a sorted whole. -/
def Rest (a0 b0 a b : Nat) (d0 d : Array Nat) : Prop := ∀ d', PermIn a b d d' → SortedIn ltF a b d' → PermIn a0 b0 d0 d' ∧ SortedIn ltF a0 b0 d'
theorem Rest.perm {a0 b0 a b : Nat} {d0 d e : Array Nat} (h : Rest a0 b0 a b d0 d) (p : PermIn a b d e) : Rest a0 b0 a b d0 e := fun d' p' s => h d' (permIn_trans _ _ _ _ _ p p') s
theorem low_perm {a b : Nat} {d e : Array Nat} (hb : b ≤ d.size) (h : Go.Sort.Below ltF a b d) (p : PermIn a b d e) : Go.Sort.Below ltF a b e := Below.permA permIn_all hb h p
/-- All that are equal to the pivot are in place. -/
theorem Rest.equal {a0 b0 a b m : Nat} {d0 d e : Array Nat} {P : Nat} (h : Rest a0 b0 a b d0 d) (p : PermIn a b d e) (ham : a < m) (hb : b ≤ e.size) (hlow : ∀ k, a ≤ k → k < b → ltF e[k]! P = false)
    (h1 : ∀ k, a ≤ k → k < m → ltF P e[k]! = false) : Rest a0 b0 m b d0 e ∧ Go.Sort.Below ltF m b e := by
  refine ⟨fun d' p' s => ?_, Or.inr (fun k hk hkb => swo_ltF.ntrans _ _ _ (hlow k (by omega) hkb) (h1 (m - 1) (by omega) (by omega)))⟩
  have pm := permIn_mono e d' m b a b (by omega) (Nat.le_refl _) hb p'
  refine h d' (permIn_trans _ _ _ _ _ p pm) (fun i j hi hij hj => ?_)
  by_cases him : i < m
  · rw [p'.2.1 i (Or.inl him)]
    have e1 : ltF d'[j]! P = false := permIn_all e d' a b (fun x => ltF x P = false) hb pm hlow j (by omega) hj
    exact swo_ltF.ntrans _ _ _ e1 (h1 i hi him)
  · exact s i j (by omega) hij hj
/-- A partition parts the work in two. -/
theorem Rest.join {a0 b0 a b m : Nat} {d0 d d2 : Array Nat} {P : Nat} (h : Rest a0 b0 a b d0 d) (p : PermIn a b d d2) (lm : d2[m]! = P)
    (l1 : ∀ k, a ≤ k → k < m → ltF d2[k]! P = true) (l2 : ∀ k, m < k → k < b → ltF d2[k]! P = false) (s1 : SortedIn ltF a m d2) (s2 : SortedIn ltF (m + 1) b d2) : PermIn a0 b0 d0 d2 ∧ SortedIn ltF a0 b0 d2 := by
  refine h d2 p (fun i j hi hij hj => ?_)
  by_cases hjm : j < m
  · exact s1 i j hi hij hjm
  · by_cases him : m < i
    · exact s2 i j (by omega) hij hj
    · have e1 : ltF d2[j]! P = false := by
        by_cases e : j = m
        · rw [e, lm]; exact swo_ltF.irrefl _
        · exact l2 j (by omega) hj
      have e2 : ltF P d2[i]! = false := by
        by_cases e : i = m
        · rw [e, lm]; exact swo_ltF.irrefl _
        · exact swo_ltF.asymmA (l1 i hi (by omega))
      exact swo_ltF.ntrans _ _ _ e1 e2
/-- The left part is done. -/
theorem Rest.left {a0 b0 a b m : Nat} {d0 d e d1 : Array Nat} {P : Nat} (h : Rest a0 b0 a b d0 d) (p : PermIn a b d e) (ham : a ≤ m) (hmb : m < b) (hb : b ≤ e.size) (hm : e[m]! = P)
    (h1 : ∀ k, a ≤ k → k < m → ltF e[k]! P = true) (h2 : ∀ k, m < k → k < b → ltF e[k]! P = false) (p1 : PermIn a m e d1) (s1 : SortedIn ltF a m d1) : Rest a0 b0 (m + 1) b d0 d1 ∧ Go.Sort.Below ltF (m + 1) b d1 := by
  have hb1 : b ≤ d1.size := by rw [p1.1]; exact hb
  have q1 : ∀ k, a ≤ k → k < m → ltF d1[k]! P = true := fun k hk hkm => permIn_all e d1 a m (fun x => ltF x P = true) (by omega) p1 h1 k hk hkm
  have q2 : ∀ k, m < k → k < b → ltF d1[k]! P = false := fun k hk hkb => by rw [p1.2.1 k (Or.inr (by omega))]; exact h2 k hk hkb
  have qm : d1[m]! = P := by rw [p1.2.1 m (Or.inr (Nat.le_refl _)), hm]
  refine ⟨fun d2 p2 s2 => ?_, Or.inr (fun k hk hkb => by rw [Nat.add_sub_cancel, qm]; exact q2 k (by omega) hkb)⟩
  refine h.join (permIn_trans _ _ _ _ _ p (permIn_trans _ _ _ _ _ (permIn_mono e d1 a m a b (Nat.le_refl _) (by omega) hb p1) (permIn_mono d1 d2 (m + 1) b a b (by omega) (Nat.le_refl _) hb1 p2)))
    (by rw [p2.2.1 m (Or.inl (by omega)), qm]) (fun k hk hkm => by rw [p2.2.1 k (Or.inl (by omega))]; exact q1 k hk hkm)
    (fun k hk hkb => permIn_all d1 d2 (m + 1) b (fun x => ltF x P = false) hb1 p2 (fun k' hk' hkb' => q2 k' (by omega) hkb') k (by omega) hkb)
    (fun i j hi hij hj => by rw [p2.2.1 i (Or.inl (by omega)), p2.2.1 j (Or.inl (by omega))]; exact s1 i j hi hij hj) s2
/-- The right part is done. -/
theorem Rest.right {a0 b0 a b m : Nat} {d0 d e d1 : Array Nat} {P : Nat} (h : Rest a0 b0 a b d0 d) (p : PermIn a b d e) (ham : a ≤ m) (hmb : m < b) (hb : b ≤ e.size) (hm : e[m]! = P)
    (h1 : ∀ k, a ≤ k → k < m → ltF e[k]! P = true) (h2 : ∀ k, m < k → k < b → ltF e[k]! P = false) (p1 : PermIn (m + 1) b e d1) (s1 : SortedIn ltF (m + 1) b d1) (hbel : Go.Sort.Below ltF a b e) : Rest a0 b0 a m d0 d1 ∧ Go.Sort.Below ltF a m d1 := by
  have hb1 : b ≤ d1.size := by rw [p1.1]; exact hb
  have q1 : ∀ k, a ≤ k → k < m → ltF d1[k]! P = true := fun k hk hkm => by rw [p1.2.1 k (Or.inl (by omega))]; exact h1 k hk hkm
  have q2 : ∀ k, m < k → k < b → ltF d1[k]! P = false := fun k hk hkb => permIn_all e d1 (m + 1) b (fun x => ltF x P = false) hb p1 (fun k' hk' hkb' => h2 k' (by omega) hkb') k (by omega) hkb
  have qm : d1[m]! = P := by rw [p1.2.1 m (Or.inl (by omega)), hm]
  refine ⟨fun d2 p2 s2 => ?_, ?_⟩
  · refine h.join (permIn_trans _ _ _ _ _ p (permIn_trans _ _ _ _ _ (permIn_mono e d1 (m + 1) b a b (by omega) (Nat.le_refl _) hb p1) (permIn_mono d1 d2 a m a b (Nat.le_refl _) (by omega) hb1 p2)))
      (by rw [p2.2.1 m (Or.inr (Nat.le_refl _)), qm]) (fun k hk hkm => permIn_all d1 d2 a m (fun x => ltF x P = true) (by omega) p2 q1 k hk hkm)
      (fun k hk hkb => by rw [p2.2.1 k (Or.inr (by omega))]; exact q2 k hk hkb) s2
      (fun i j hi hij hj => by rw [p2.2.1 i (Or.inr (by omega)), p2.2.1 j (Or.inr (by omega))]; exact s1 i j hi hij hj)
  · rcases hbel with h0 | h0
    · exact Or.inl h0
    · by_cases ha : a = 0
      · exact Or.inl ha
      · exact Or.inr (fun k hk hkm => by rw [p1.2.1 k (Or.inl (by omega)), p1.2.1 (a - 1) (Or.inl (by omega))]; exact h0 k hk (by omega))

end Go.Proofs.Ytlibakmllogcdaa
