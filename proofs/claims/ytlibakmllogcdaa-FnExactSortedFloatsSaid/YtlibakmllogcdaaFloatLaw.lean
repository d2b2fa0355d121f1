/-
  Plain laws on the order of floating-point numbers, NaNs ahead of all others. No statement is proved here.
-/
import Derived.Sort.LotA
import GoSem.Core.Float
namespace Go.Proofs.Ytlibakmllogcdaa
open Go.Sort Ieee

theorem signed_shift (s : Bool) (m a b : Nat) : signed s m (a + b) = signed s m a * (2 ^ b : Nat) := by
  unfold signed
  simp only [Nat.shiftLeft_eq, Nat.pow_add]
  cases s <;> simp [Int.neg_mul, Int.mul_assoc]
/-- A number's place on a line that begins low enough. -/
def place (b : Int) : Datum → Int
  | .number s m i => signed s m (i - b).toNat
  | _ => 0
theorem signed_scale (s : Bool) (m : Nat) (i b c : Int) (hb : b ≤ c) (hc : c ≤ i) : signed s m (i - b).toNat = signed s m (i - c).toNat * (2 ^ (c - b).toNat : Nat) := by
  rw [← signed_shift]
  congr 1
  omega
theorem compare_scale (x y : Int) (k : Nat) : compare (x * (2 ^ k : Nat)) (y * (2 ^ k : Nat)) = compare x y := by
  have hp : (0 : Int) < (2 ^ k : Nat) := by have := Nat.two_pow_pos k; omega
  rcases Int.lt_trichotomy x y with h | h | h
  · have h1 : x * (2 ^ k : Nat) < y * (2 ^ k : Nat) := Int.mul_lt_mul_of_pos_right h hp
    rw [Int.compare_eq_lt.2 h, Int.compare_eq_lt.2 h1]
  · subst h; simp
  · have h1 : y * (2 ^ k : Nat) < x * (2 ^ k : Nat) := Int.mul_lt_mul_of_pos_right h hp
    rw [Int.compare_eq_gt.2 h, Int.compare_eq_gt.2 h1]
theorem order_number (s t : Bool) (m n : Nat) (i j b : Int) (hi : b ≤ i) (hj : b ≤ j) : Datum.order (.number s m i) (.number t n j) = some (compare (signed s m (i - b).toNat) (signed t n (j - b).toNat)) := by
  show some (compare (signed s m (i - min i j).toNat) (signed t n (j - min i j).toNat)) = _
  rw [signed_scale s m i b (min i j) (by omega) (by omega), signed_scale t n j b (min i j) (by omega) (by omega), compare_scale]

/-- Which of the five kinds a datum is. -/
def rankD : Datum → Int
  | .nan .. => 0
  | .infinity true => 1
  | .number .. => 2
  | .infinity false => 3
/-- Ahead of another one: NaNs first. -/
def ltD (x y : Datum) : Bool := (x.isNaN && !y.isNaN) || Datum.order x y == some .lt
/-- On one line. -/
theorem ltD_line (x y : Datum) (b : Int) (hx : ∀ s m i, x = .number s m i → b ≤ i) (hy : ∀ s m i, y = .number s m i → b ≤ i) : ltD x y = decide (rankD x < rankD y ∨ (rankD x = rankD y ∧ place b x < place b y)) := by
  cases x with
  | nan s f => cases y with
    | nan t g => simp [ltD, Datum.isNaN, Datum.order, rankD, place]
    | infinity t => cases t <;> simp [ltD, Datum.isNaN, Datum.order, rankD]
    | number t n j => simp [ltD, Datum.isNaN, Datum.order, rankD]
  | infinity s => cases y with
    | nan t g => cases s <;> simp [ltD, Datum.isNaN, Datum.order, rankD]
    | infinity t => cases s <;> cases t <;> simp [ltD, Datum.isNaN, Datum.order, rankD, place] <;> decide
    | number t n j => cases s <;> simp [ltD, Datum.isNaN, Datum.order, rankD]
  | number s m i => cases y with
    | nan t g => simp [ltD, Datum.isNaN, Datum.order, rankD]
    | infinity t => cases t <;> simp [ltD, Datum.isNaN, Datum.order, rankD]
    | number t n j =>
      have h := order_number s t m n i j b (hx s m i rfl) (hy t n j rfl)
      unfold ltD
      rw [h]
      simp only [Datum.isNaN, rankD, place, Bool.false_and, Bool.false_or]
      by_cases hl : signed s m (i - b).toNat < signed t n (j - b).toNat
      · rw [Int.compare_eq_lt.2 hl]; simp [hl]
      · rcases Int.lt_trichotomy (signed s m (i - b).toNat) (signed t n (j - b).toNat) with h1 | h1 | h1
        · exact absurd h1 hl
        · rw [Int.compare_eq_eq.2 h1]; simp [hl]
        · rw [Int.compare_eq_gt.2 h1]; simp [hl]
def lowOf : Datum → Int
  | .number _ _ i => i
  | _ => 0
theorem ltD_three (x y z : Datum) : ∃ b : Int, (∀ u v : Datum, (u = x ∨ u = y ∨ u = z) → (v = x ∨ v = y ∨ v = z) → ltD u v = decide (rankD u < rankD v ∨ (rankD u = rankD v ∧ place b u < place b v))) := by
  refine ⟨min (lowOf x) (min (lowOf y) (lowOf z)), fun u v hu hv => ltD_line u v _ (fun s m i e => ?_) (fun s m i e => ?_)⟩
  · have : lowOf u = i := by rw [e]; rfl
    rcases hu with h | h | h <;> rw [h] at this <;> omega
  · have : lowOf v = i := by rw [e]; rfl
    rcases hv with h | h | h <;> rw [h] at this <;> omega
theorem swo_ltD : SWO ltD where
  irrefl x := by
    obtain ⟨b, h⟩ := ltD_three x x x
    rw [h x x (.inl rfl) (.inl rfl)]
    simp
  trans x y z h1 h2 := by
    obtain ⟨b, h⟩ := ltD_three x y z
    rw [h x y (.inl rfl) (.inr (.inl rfl))] at h1
    rw [h y z (.inr (.inl rfl)) (.inr (.inr rfl))] at h2
    rw [h x z (.inl rfl) (.inr (.inr rfl))]
    simp only [decide_eq_true_eq] at *
    omega
  ntrans x y z h1 h2 := by
    obtain ⟨b, h⟩ := ltD_three x y z
    rw [h x y (.inl rfl) (.inr (.inl rfl))] at h1
    rw [h y z (.inr (.inl rfl)) (.inr (.inr rfl))] at h2
    rw [h x z (.inl rfl) (.inr (.inr rfl))]
    simp only [decide_eq_false_iff_not] at *
    omega

/-- A floating-point number, by its bits, ahead of another one. -/
def ltF (x y : Nat) : Bool := ltD (FloatKind.f64.decode x) (FloatKind.f64.decode y)
theorem swo_ltF : SWO ltF where
  irrefl _ := swo_ltD.irrefl _
  trans _ _ _ := swo_ltD.trans _ _ _
  ntrans _ _ _ := swo_ltD.ntrans _ _ _
/-- Is it a NaN? -/
def nanF (x : Nat) : Bool := (FloatKind.f64.decode x).isNaN
theorem order_self (x : Nat) : (FloatKind.f64.format.order x x == some .eq) = !nanF x := by
  show (Datum.order (FloatKind.f64.decode x) (FloatKind.f64.decode x) == some .eq) = !(FloatKind.f64.decode x).isNaN
  cases FloatKind.f64.decode x with
  | nan s f => rfl
  | infinity s => cases s <;> rfl
  | number s m i =>
    rw [order_number s s m m i i i (by omega) (by omega)]
    simp [Datum.isNaN]
theorem ltF_eq (x y : Nat) : ltF x y = ((nanF x && !nanF y) || FloatKind.f64.format.order x y == some .lt) := rfl

end Go.Proofs.Ytlibakmllogcdaa
