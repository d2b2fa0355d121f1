/-
  The contract of slices.Repeat. No statement is proved here.
-/
import Derived.Test.YtmfmpfcgllpflaaDrawn
import Derived.Test.YtmfmpfcgllpflaaShelf
import Derived.Laws.CopyOwn
namespace Go.Proofs.Ytmfmpfcgllpflaa
open Go.RowKit Go.Shelf

theorem size_intR : (Try.prog.info? 3).map (·.size) = some 1 := by kernel_rfl

/-- A list, q times. -/
def rep {α : Type} (xs : List α) (q : Nat) : List α := (List.replicate q xs).flatten
theorem rep_length {α : Type} (xs : List α) (q : Nat) : (rep xs q).length = q * xs.length := by simp [rep]
theorem rep_add {α : Type} (xs : List α) (q r : Nat) : rep xs (q + r) = rep xs q ++ rep xs r := by
  simp only [rep]
  rw [← List.flatten_append, List.replicate_append_replicate]
theorem rep_zero {α : Type} (xs : List α) : rep xs 0 = [] := rfl
theorem rep_one {α : Type} (xs : List α) : rep xs 1 = xs := by simp [rep]
theorem rep_nil {α : Type} (q : Nat) : rep ([] : List α) q = [] := by simp [rep]
theorem rep_map {α β : Type} (f : α → β) (xs : List α) (q : Nat) : rep (xs.map f) q = (rep xs q).map f := by simp [rep]
theorem rep_mem {α : Type} {xs : List α} {q : Nat} {x : α} (h : x ∈ rep xs q) : x ∈ xs := by
  obtain ⟨l, hl, hx⟩ := List.mem_flatten.1 h
  rwa [(List.mem_replicate.1 hl).2] at hx

/-- A row of which q times are filled. -/
def rowR (xs : List Value) (q c : Nat) (z : Value) : List Value := rep xs q ++ List.replicate (c * xs.length - q * xs.length) z
theorem rowR_length (xs : List Value) (q c : Nat) (z : Value) (h : q ≤ c) : (rowR xs q c z).length = c * xs.length := by
  have := Nat.mul_le_mul_right xs.length h
  simp only [rowR, List.length_append, rep_length, List.length_replicate]
  omega
theorem rowR_full (xs : List Value) (c : Nat) (z : Value) : rowR xs c c z = rep xs c := by simp [rowR]
theorem rowR_none (xs : List Value) (c : Nat) (z : Value) : rowR xs 0 c z = List.replicate (c * xs.length) z := by simp [rowR, rep_zero]
theorem rowR_step (xs : List Value) (q r c : Nat) (z : Value) (h : q + r ≤ c) : splice (rowR xs q c z) (q * xs.length) (rep xs r) = rowR xs (q + r) c z := by
  have h1 := Nat.mul_le_mul_right xs.length h
  rw [Nat.add_mul] at h1
  have hl : (rep xs q).length = q * xs.length := rep_length _ _
  simp only [splice, rowR, rep_add, Nat.add_mul, rep_length]
  rw [List.take_append_of_le_length (by omega), List.take_of_length_le (by omega), List.drop_append, List.drop_eq_nil_of_le (by omega), hl, List.nil_append, List.drop_replicate, List.append_assoc]
  congr 3
  omega
theorem rowR_at (xs : List Value) (q r c : Nat) (z : Value) (h : r ≤ q) (j : Nat) (v : Value) (hv : (rep xs r)[j]? = some v) : (rowR xs q c z)[j]? = some v := by
  obtain ⟨d, rfl⟩ := Nat.exists_eq_add_of_le h
  have hj := (List.getElem?_eq_some_iff.1 hv).1
  rw [rowR, rep_add, List.append_assoc, List.getElem?_append_left hj, hv]

theorem made_ints (z : Value) (n : Nat) : (madeCells #[z] n).toList = List.replicate n z := by
  rw [List.eq_replicate_iff]
  refine ⟨by simp [size_madeCells], fun b hb => ?_⟩
  simp [madeCells, Nat.mod_one] at hb
  exact hb.2.symm

/-- A new row. -/
theorem made_row {w : World} {base g n : Nat} {e : TypeId} {xs : List Value} (h : w.ownsRow base e 1 (.slice (some ⟨g, 0, none⟩) n n) n xs) : w.heap[g]? = some (.cells xs.toArray e (0, 0)) ∧ base ≤ g := by
  have hl := h.1
  rcases h.2 with ⟨h', _⟩ | ⟨g', cap, cur, h', hb, hg, hnc, hcm, hcs, htake⟩
  · simp at h'
  · simp only [Value.slice.injEq, Option.some.injEq, Addr.mk.injEq, and_true, true_and] at h'
    obtain ⟨rfl, rfl⟩ := h'
    rw [List.take_of_length_le (by rw [Array.length_toList, hcs]; exact Nat.le_refl _)] at htake
    refine ⟨?_, hb⟩
    rw [hg, ← htake]
theorem row_made {w : World} {base g n : Nat} {e : TypeId} {xs : List Value} (h : w.heap[g]? = some (.cells xs.toArray e (0, 0))) (hb : base ≤ g) (hl : xs.length = n) (hn : n ≤ maxLen) : w.ownsRow base e 1 (.slice (some ⟨g, 0, none⟩) n n) n xs := by
  refine ⟨by omega, .inr ⟨g, n, _, rfl, hb, h, Nat.le_refl _, hn, by simp [hl], ?_⟩⟩
  simp [List.take_of_length_le, hl]

/-- copy, as a run. -/
theorem run_copy_splice {P : Program} (w : World) (dT sT ty elem : TypeId) (hu : P.underlying dT = some (.slice elem)) (hsz : (P.info? elem).map (·.size) = some 1)
    (dp sp : Option Addr) (dLen dCap sLen sCap : Nat)
    (g off : Nat) (cur : List Value) (t : TypeId) (hg : w.heap[g]? = some (.cells cur.toArray t (0, 0))) (cs : List Value) (n : Nat) (hnl : n = cs.length) (hn : n = Nat.min sLen dLen)
    (hpos : 0 < n → dp = some ⟨g, off, none⟩ ∧ ∃ ad, sp = some ad ∧ ∀ j v, cs[j]? = some v → w.cell? (ad.add j) = some v)
    (hfit : off + n ≤ cur.length) (h1 : ∀ v ∈ cs, v.oneCell' = true) (B : Nat) (w0 : World) (hb : Below B w0 w) (hBg : B ≤ g) :
    ∃ w', (Builtin.copy_ #[dT, sT] ty #[.slice dp dLen dCap, .slice sp sLen sCap]).run P w = .ok (.int .i64 (n : Int)) w' ∧ w'.heap[g]? = some (.cells (splice cur off cs).toArray t (0, 0)) ∧ Below B w0 w' := by
  subst hnl
  by_cases h0 : cs.length = 0
  · obtain rfl : cs = [] := List.eq_nil_of_length_eq_zero h0
    exact ⟨w, run_copy_none w dT sT ty elem dp sp dLen dCap sLen sCap hu hsz (by simpa using hn.symm), by simpa [splice] using hg, hb⟩
  · obtain ⟨rfl, ad, rfl, hsrc⟩ := hpos (by omega)
    exact ⟨_, run_copy_row P w dT sT ty elem g off dLen dCap ad sLen sCap cur.toArray t cs hu hsz hg hn hsrc (by simpa using hfit) h1, by simpa [splice] using setRow_heap w g _ _ t _ hg, below_setRow hb hBg _⟩

/-- What slices.Repeat hands back. -/
def RepeatPost (w : World) (zs : List Int) (c : Nat) (e : Ending) (w' : World) : Prop :=
  ∃ g, e = .returned (.slice (some ⟨g, 0, none⟩) (rep zs c).length (rep zs c).length) ∧ w'.ownsRow w.heap.size 3 1 (.slice (some ⟨g, 0, none⟩) (rep zs c).length (rep zs c).length) (rep zs c).length ((rep zs c).map (Value.int .i64)) ∧ Below w.heap.size w w'

set_option maxRecDepth 100000 in
set_option maxHeartbeats 1000000 in
/-- slices.Repeat -/
theorem repeat_calls (w : World) (B : Nat) (sv : Value) (zs : List Int) (c : Nat) (hI : SeesI w B sv zs) (hB : B ≤ w.heap.size) (hz : c * zs.length ≤ 65536) (hl : zs.length ≤ 1000000000000000000) (hc : c ≤ 9223372036854775807) :
    Calls Try.prog 41 #[sv, .int .i64 (c : Int)] w (RepeatPost w zs c) := by
  obtain ⟨i0, hi, hz0, hz1, hz2⟩ := info_parts Try.infoInt
  have hI' := hI.more hB
  obtain ⟨A, cp, rfl, _, hs⟩ := hI'.form
  have hmul := Lib.hid (Try.bits_Mul zs.length c (by omega) (by omega) w)
  rw [Nat.mul_comm zs.length c, Nat.div_eq_of_lt (by omega), Nat.mod_eq_of_lt (by omega)] at hmul
  have hrl := rep_length (zs.map (Value.int .i64)) c
  rw [List.length_map] at hrl
  have u1 : IntKind.u64.wrap (zs.length : Int) = (zs.length : Int) := IntWalk.u64_in _ (by omega)
  have u2 : IntKind.u64.wrap (c : Int) = (c : Int) := IntWalk.u64_in _ (by omega)
  obtain ⟨X, hX⟩ : ∃ X : List Value, X = zs.map (Value.int .i64) := ⟨_, rfl⟩
  have HX := Lib.hid hX
  have hXl : X.length = zs.length := by rw [hX, List.length_map]
  obtain ⟨T, hT⟩ : ∃ T, T = c * zs.length := ⟨_, rfl⟩
  rw [← hT] at hmul hz
  have HT := Lib.hid hT
  clear hI hT hX
  go_enter Try.func41, Try.ntmps41
  go_wp2_with fail
  refine hmul.out.mono ?_
  rintro e w1 ⟨rfl, rfl⟩
  have v1 : ¬ ((9223372036854775807 : Int) < (T : Int)) := by omega
  have v2 : IntKind.i64.wrap (T : Int) = (T : Int) := IntWalk.i64_in _ (by omega)
  obtain ⟨w2, hrun, hown2, hg2⟩ := run_makeSlice_full (P := Try.prog) w1 w1.heap.size 23 3 i0 (.int .i64 0) 1 Try.underlying23 hi hz0 hz1 .i64 .i64 T (by omega) (by rw [hz2]; omega) (by unfold maxLen; omega) (Nat.le_refl _)
  obtain ⟨hrow2, hge2⟩ := made_row hown2
  rw [Nat.mul_one, show (Value.int .i64 0).cells = #[Value.int .i64 0] from rfl, made_ints, HT.out, ← hXl, ← rowR_none] at hrow2
  have hB2 : Below w1.heap.size w1 w2 := below_own (Below.refl _ w1) (World.ownsRow_nil w1 w1.heap.size 3 1) hg2 (Nat.le_refl _) (Nat.le_refl _)
  obtain ⟨q1, hq1⟩ : ∃ q1, q1 = min 1 c := ⟨_, rfl⟩
  have hq1l : (rep X q1).length = min zs.length T := by
    rw [rep_length, hXl, HT.out, hq1]
    rcases Nat.eq_zero_or_pos c with h | h
    · subst h; simp
    · rw [Nat.min_eq_left h, Nat.one_mul, Nat.min_eq_left (Nat.le_mul_of_pos_left _ h)]
  have hcs : 0 < (rep X q1).length → ∃ ad, A = some ad ∧ ∀ j v, (rep X q1)[j]? = some v → w2.cell? (ad.add j) = some v := by
    intro h0
    rw [hq1l] at h0
    obtain ⟨b, off, rfl, hbl, hx⟩ := hs (by omega)
    refine ⟨_, rfl, fun j v hv => ?_⟩
    have hjl := (List.getElem?_eq_some_iff.1 hv).1
    rw [hq1l] at hjl
    obtain rfl : q1 = 1 := by
      rcases Nat.eq_zero_or_pos c with h | h
      · subst h; rw [HT.out] at h0; simp at h0
      · rw [hq1, Nat.min_eq_left h]
    rw [rep_one, HX.out, List.getElem?_map] at hv
    rw [Addr.add_lit, hB2.cell (p := ⟨b, off + j, none⟩) hbl, hx j (by omega)]
    cases hzj : zs[j]? with
    | none => rw [hzj] at hv; cases hv
    | some y => rw [hzj] at hv; simpa using hv
  have hoX : ∀ r, ∀ v ∈ rep X r, v.oneCell' = true := fun r v hv => by rw [HX.out] at hv; exact int_cell _ v (rep_mem hv)
  obtain ⟨w3, hcopy, hrow3, hB3⟩ := run_copy_splice (P := Try.prog) w2 23 23 3 3 Try.underlying23 size_intR (some ⟨w1.heap.size, 0, none⟩) A T T zs.length cp w1.heap.size 0 _ 3 hrow2 (rep X q1) (q1 * zs.length) (by rw [rep_length, hXl]) (by rw [← hXl, ← rep_length, hq1l, hXl]) (fun h => ⟨rfl, hcs (by rw [rep_length, hXl]; exact h)⟩) (by rw [rowR_length _ _ _ _ (Nat.zero_le _), Nat.zero_add, hXl]; exact Nat.mul_le_mul_right _ (by omega)) (hoX q1) w1.heap.size w1 hB2 (Nat.le_refl _)
  have Hq1 := Lib.hid hq1
  clear hq1 hq1l hcs
  go_wp2_with fail
  go_loopw [8] (fun i wr => ∃ q N : Nat, i = .int .i64 N ∧ N = q * zs.length ∧ q ≤ c ∧ (0 < T → 0 < q) ∧ wr.heap[w1.heap.size]? = some (.cells (rowR X q c (.int .i64 0)).toArray 3 (0, 0)) ∧ Below w1.heap.size w1 wr) (fun i _ => T - (intOf i).toNat)
  case atStart => 
    refine ⟨q1, _, rfl, rfl, by have := Hq1.out; omega, fun h => ?_, ?_, hB3⟩
    · rw [HT.out] at h
      have := Nat.pos_of_mul_pos_right h
      have := Hq1.out
      omega
    · have e := rowR_step X 0 q1 c (.int .i64 0) (by have := Hq1.out; omega)
      rw [Nat.zero_mul, Nat.zero_add] at e
      rw [hrow3, e]
  case round =>
    obtain ⟨q, N, rfl, hN, hq, hq0, hrow, hb⟩ := hrel
    have HN := Lib.hid hN
    have hbs := hb.size
    clear hrow3 hB3 hrow2 hB2 hcopy hrun hown2 hg2
    have hNT : N ≤ T := by rw [hN, HT.out]; exact Nat.mul_le_mul_right _ hq
    clear hN
    by_cases hlt : N < T
    · have hcl : min N (T - N) = (min q (c - q)) * zs.length := by
        rw [HT.out, HN.out, ← Nat.sub_mul, Nat.mul_min_mul_right]
      obtain ⟨M, hM⟩ : ∃ M, M = min N (T - N) := ⟨_, rfl⟩
      obtain ⟨r, hr⟩ : ∃ r, r = min q (c - q) := ⟨_, rfl⟩
      rw [← hr, ← hM] at hcl
      have hrl : (rep X r).length = M := by rw [rep_length, hXl, hcl]
      have hrq : r ≤ q := by omega
      have hqr : q + r ≤ c := by omega
      have hM1 : M ≤ N := by omega
      have hM2 : N + M ≤ T := by omega
      have hM0 : 0 < M := by
        have : 0 < N := by
          have := hq0 (by omega)
          have h2 := HT.out
          rw [HN.out]
          refine Nat.mul_pos this ?_
          rcases Nat.eq_zero_or_pos zs.length with h | h
          · rw [h, Nat.mul_zero] at h2; omega
          · exact h
        omega
      have hsrc : ∀ j v, (rep X r)[j]? = some v → wr.drew.cell? ((⟨w1.heap.size, 0, none⟩ : Addr).add j) = some v := by
        intro j v hv
        rw [Addr.add_lit, Nat.zero_add]
        show wr.cell? ⟨w1.heap.size, j, none⟩ = some v
        have := rowR_at X q r c (.int .i64 0) hrq j v hv
        unfold World.cell?
        rw [hrow]
        simpa using this
      have hone := hoX r
      have hfit : N + (rep X r).length ≤ (rowR X q c (.int .i64 0)).length := by
        rw [hrl, rowR_length _ _ _ _ hq, hXl, ← HT.out]
        omega
      have hmin : (rep X r).length = Nat.min N (T - N) := by rw [hrl, hM]
      have HM := Lib.hid hM
      have Hcl := Lib.hid hcl
      clear hM hcl hr
      have m1 : ¬ T = N := by omega
      have m2 : IntKind.i64.wrap ((N : Int) + (M : Int)) = (N : Int) + (M : Int) := IntWalk.i64_in _ (by omega)
      go_wp2
      go_region_held3 (fun w' => Below w1.heap.size w1 w') (first | exact below_drew hb | exact hb2)
        ((refine step_copy_splice rfl (.tmp 41) (.tmp 44) 23 23 (by rfl) 3 Try.underlying23 size_intR (some ⟨w1.heap.size, N, none⟩) (some ⟨w1.heap.size, 0, none⟩) (T - N) (T - N) N T (by rfl) (by rfl) w1.heap.size N _ 3 hrow (rep X r) hmin (fun h => ⟨rfl, ⟨w1.heap.size, 0, none⟩, rfl, hsrc⟩) hfit hone w1.heap.size w1 (below_drew hb) (Nat.le_refl _) ?_; intro w4 hg4 hb2))
      all_goals
        have hnew := Lib.hid (hg4.out.trans (by rw [HN.out, ← hXl, rowR_step X q r c _ hqr]))
        clear hg4 hsrc hone hfit hrow
        go_wp2
        go_roundw
        case rel => exact ⟨q + r, N + M, by push_cast; rfl, by rw [Nat.add_mul, ← HN.out, ← Hcl.out], hqr, fun _ => by omega, hnew.out, hb2⟩
        case measure => simp [intOf]; omega
    · obtain rfl : N = T := by omega
      clear hs
      go_wp2_with fail
      go_ret
      have hlen : (rep zs c).length = N := by rw [rep_length, ← HT.out]
      have hX2 : rowR X q c (.int .i64 0) = (rep zs c).map (Value.int .i64) := by
        rcases Nat.eq_zero_or_pos zs.length with h | h
        · have h1 : zs = [] := List.eq_nil_of_length_eq_zero h
          have h2 : X = [] := by rw [HX.out, h1]; rfl
          rw [h1, h2, rep_nil, rowR, rep_nil]
          simp
        · have h1 : q = c := Nat.eq_of_mul_eq_mul_right h (HN.out.symm.trans HT.out)
          rw [h1, rowR_full, HX.out, rep_map]
      refine ⟨w1.heap.size, by rw [hlen]; rfl, ?_, hb⟩
      rw [hlen]
      exact row_made (by rw [hrow, hX2]) (Nat.le_refl _) (by rw [List.length_map, hlen]) (by unfold maxLen; omega)

/-- A number below 0. -/
theorem repeat_below (A : Option Addr) (len cap : Nat) (m : Int) (hm : m < 0) (w : World) :
    Calls Try.prog 41 #[.slice A len cap, .int .i64 m] w fun e w' =>
      (∃ u pv, e = .panicked [{ v := .iface u pv, recovered := false }]) ∧ Below w.heap.size w w' := by
  go_enter Try.func41, Try.ntmps41
  go_wp2
  exact ⟨rfl, ⟨_, _, rfl⟩, Below.refl _ w⟩

/-- Too great a number. -/
theorem repeat_over (A : Option Addr) (len cap c : Nat) (hl : len ≤ 1000000000000000000) (hc : c ≤ 9223372036854775807) (hover : 9223372036854775807 < len * c) (w : World) :
    Calls Try.prog 41 #[.slice A len cap, .int .i64 (c : Int)] w fun e w' =>
      (∃ u pv, e = .panicked [{ v := .iface u pv, recovered := false }]) ∧ Below w.heap.size w w' := by
  have hmul := Lib.hid (Try.bits_Mul len c (by omega) (by omega) w)
  have u1 : IntKind.u64.wrap (len : Int) = (len : Int) := IntWalk.u64_in _ (by omega)
  have u2 : IntKind.u64.wrap (c : Int) = (c : Int) := IntWalk.u64_in _ (by omega)
  obtain ⟨hi, hhi⟩ : ∃ hi, hi = len * c / 18446744073709551616 := ⟨_, rfl⟩
  obtain ⟨lo, hlo⟩ : ∃ lo, lo = len * c % 18446744073709551616 := ⟨_, rfl⟩
  have hor : 0 < hi ∨ hi = 0 ∧ 9223372036854775807 < lo := by omega
  rw [← hhi, ← hlo] at hmul
  clear hhi hlo hover
  rcases hor with h1 | ⟨rfl, h1⟩
  · go_enter Try.func41, Try.ntmps41
    go_wp2_with fail
    refine hmul.out.mono ?_
    rintro e w1 ⟨rfl, rfl⟩
    go_wp2
    exact ⟨rfl, ⟨_, _, rfl⟩, Below.refl _ _⟩
  · go_enter Try.func41, Try.ntmps41
    go_wp2_with fail
    refine hmul.out.mono ?_
    rintro e w1 ⟨rfl, rfl⟩
    have v1 : (9223372036854775807 : Int) < (lo : Int) := by omega
    go_wp2
    exact ⟨rfl, ⟨_, _, rfl⟩, Below.refl _ _⟩

end Go.Proofs.Ytmfmpfcgllpflaa
