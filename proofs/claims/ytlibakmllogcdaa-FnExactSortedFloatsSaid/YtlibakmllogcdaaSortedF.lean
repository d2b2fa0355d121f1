/-
  The contracts of slices.Sort and slices.Sorted at floating-point numbers. No statement is proved here.
-/
import Derived.Test.YtlibakmllogcdaaCollectF
import Derived.Test.YtlibakmllogcdaaFsPdq
import Derived.Test.YtlibakmllogcdaaShelf
import Derived.Sort.OwnSorted
import Derived.Lib.BitFns
namespace Go.Proofs.Ytlibakmllogcdaa
open Go.RowKit Go.Shelf Go.Sort

/-- No number ahead of a lesser one. -/
def Rises (ys : List Nat) : Prop := ∀ i j, i < j → j < ys.length → ltF (ys[j]?.getD 0) (ys[i]?.getD 0) = false

theorem oneF : OneCell encF := fun _ => rfl
theorem holds_of_blockF {w : World} {g : Nat} {cur : Array Value} {e : TypeId} {ss : List Nat} (hb : w.heap[g]? = some (.cells cur e (0, 0))) (ht : cur.toList.take ss.length = ss.map (Value.float .f64)) : Holds encF w g 0 ss.toArray := by
  intro j hj
  have hj' : j < ss.length := by simpa using hj
  refine ⟨?_, by simp [World.frozen?, hb]⟩
  have h1 : (cur.toList.take ss.length)[j]? = (ss.map (Value.float .f64))[j]? := by rw [ht]
  rw [List.getElem?_take_of_lt hj'] at h1
  simp only [World.cell?, hb, Nat.zero_add]
  simp only [Option.isSome_none, Bool.false_eq_true, if_false]
  rw [← Array.getElem?_toList, h1]
  simp [hj', encF_eq]
theorem heap_sortedF {w : World} {g n : Nat} {os : Array Obj} {cur : Array Value} {e : TypeId} {fr : Nat × Nat} (d : Array Nat) (hb : w.heap[g]? = some (.cells cur e fr)) :
    (grow (putRow encF (Sort.ahead w n) g 0 d) os).heap[g]? = some (.cells (putCells encF 0 d cur) e fr) := by
  have hg : g < w.heap.size := (Array.getElem?_eq_some_iff.1 hb).1
  rw [heap_grow_old _ _ (by simpa using hg)]
  simp [putRow, mapBlock, Sort.ahead, Array.getElem?_modify, hb, onCells]
theorem grownBy_sortedF {w : World} {g n : Nat} {os : Array Obj} (d : Array Nat) : w.grownBy (grow (putRow encF (Sort.ahead w n) g 0 d) os) (some g) := by
  refine ⟨rfl, rfl, rfl, by simp, fun k hk hne => ?_⟩
  rw [heap_grow_old _ _ (by simpa using hk)]
  have : g ≠ k := fun e => hne (by rw [e])
  simp [putRow, mapBlock, Sort.ahead, Array.getElem?_modify, this]
theorem take_putCellsF (cur : Array Value) (ts : List Nat) (h : ts.length ≤ cur.size) : (putCells encF 0 ts.toArray cur).toList.take ts.length = ts.map (Value.float .f64) := by
  apply List.ext_getElem?
  intro j
  by_cases hj : j < ts.length
  · rw [List.getElem?_take_of_lt hj, Array.getElem?_toList]
    simp [putCells, hj, show j < cur.size by omega, encF_eq]
  · rw [List.getElem?_take_eq_none (by omega), List.getElem?_eq_none (by simp; omega)]
theorem ownsRow_sortedF {w : World} {base g cap n : Nat} {e : TypeId} {os : Array Obj} {cur : Array Value} {ss ts : List Nat} (hl : ts.length = ss.length) (hbase : base ≤ g) (hb : w.heap[g]? = some (.cells cur e (0, 0)))
    (h1 : ss.length ≤ cap) (h2 : cap ≤ maxLen) (h3 : cur.size = cap * 1) :
    (grow (putRow encF (Sort.ahead w n) g 0 ts.toArray) os).ownsRow base e 1 (.slice (some ⟨g, 0, none⟩) ss.length cap) ss.length (ts.map (Value.float .f64)) :=
  ⟨by simp [hl], .inr ⟨g, cap, _, rfl, hbase, heap_sortedF _ hb, h1, h2, by simp [putCells, h3], by rw [Nat.mul_one, ← hl]; exact take_putCellsF cur ts (by omega)⟩⟩

theorem perm_list {d d' : Array Nat} (h : PermIn 0 d.size d d') : d'.toList.Perm d.toList := by
  have h3 := h.2.2
  have e1 : d.extract 0 d.size = d := by simp
  have e2 : d'.extract 0 d.size = d' := by rw [← h.1]; simp
  rwa [e1, e2] at h3
theorem rises_list {d : Array Nat} (h : SortedIn ltF 0 d.size d) : Rises d.toList := by
  intro i j hij hj
  have hj' : j < d.size := by simpa using hj
  have h1 := h i j (Nat.zero_le _) hij hj'
  have hi' : i < d.size := by omega
  simpa [hj', hi'] using h1

/-- slices.insertionSortOrdered at nothing -/
theorem fsIns_none (A : Option Addr) (cap : Nat) (w : World) :
    Calls Try.prog 44 #[.slice A 0 cap, .int .i64 0, .int .i64 0] w fun e w' => e = .returned (.tuple #[]) ∧ w = w' := by
  go_enter Try.func44, Try.ntmps44
  go_wp2
  go_loopw [6] (fun u wr => u = .int .i64 1 ∧ w = wr) (fun _ _ => 0)
  case atStart => exact ⟨rfl, rfl⟩
  case round =>
    obtain ⟨rfl, rfl⟩ := hrel
    go_wp2
    go_end0
    exact ⟨rfl, rfl⟩
set_option maxRecDepth 100000 in
set_option maxHeartbeats 2000000 in
/-- slices.pdqsortOrdered at nothing -/
theorem pdq_none (A : Option Addr) (cap l : Nat) (w : World) :
    Calls Try.prog 32 #[.slice A 0 cap, .int .i64 0, .int .i64 0, .int .i64 l] w fun e w' => e = .returned (.tuple #[]) ∧ w = w' := by
  have hc := Lib.hid (fsIns_none A cap w)
  go_enter Try.func32, Try.ntmps32
  go_wp2_with fail
  go_loopg [1, 2, 3, 8, 9] 1 (fun g ua ub ul uw up wr => g = 1 ∧ ua = .int .i64 0 ∧ ub = .int .i64 0 ∧ ul = .int .i64 l ∧ uw = .bool true ∧ up = .bool true ∧ w = wr)
  case atStart => exact ⟨rfl, rfl, rfl, rfl, rfl, rfl, rfl⟩
  case round =>
    obtain ⟨rfl, rfl, rfl, rfl, rfl, rfl, rfl⟩ := hrel
    go_wp2_with (go_at_call 44; refine hc.out.mono ?_; rintro e w2 ⟨rfl, rfl⟩)
    first | go_end0 | go_ret | refine bodyPost_ret (results_none rfl _ _ _) rfl ?_
    exact ⟨rfl, rfl⟩

/-- slices.Sort, by the contract of slices.pdqsortOrdered at the same slice -/
theorem sortF_of (A : Option Addr) (n cap : Nat) (w : World) (hn : n < 1152921504606846976) (R : World → Prop)
    (h : ∀ l : Nat, l ≤ 1000 → Calls Try.prog 32 #[.slice A n cap, .int .i64 0, .int .i64 n, .int .i64 l] w fun e w' => e = .returned (.tuple #[]) ∧ R w') :
    Calls Try.prog 26 #[.slice A n cap] w fun e w' => e = .returned (.tuple #[]) ∧ R w' := by
  have H := Lib.hid (h (Lib.bitLen n) (Nat.le_trans (Lib.bitLen_le n 64 (Nat.le_refl _) (by omega)) (by decide)))
  have hl := Lib.hid (Try.bits_Len (n : Int) w (by omega) (by omega))
  clear h
  go_enter Try.func26, Try.ntmps26
  go_wp2_with (go_at_call 30; refine (hl.out).mono ?_; rintro e w1 ⟨rfl, rfl⟩)
  refine H.out.mono ?_
  rintro e w2 ⟨rfl, hr⟩
  have Hr := Lib.hid hr
  clear hr H hl
  go_wp2_with fail
  first | go_end0 | go_ret | refine bodyPost_ret (results_none rfl _ _ _) rfl ?_
  exact ⟨rfl, Hr.out⟩

/-- slices.Sort -/
theorem sortF_calls (w : World) (base : Nat) (v : Value) (xs : List Nat) (hr : w.ownsRow base 32 1 v xs.length (xs.map (Value.float .f64))) (hb : base ≤ w.heap.size) (hz : xs.length < 1152921504606846976) :
    Calls Try.prog 26 #[v] w fun e w' => e = .returned (.tuple #[]) ∧ ∃ ys : List Nat, ys.Perm xs ∧ Rises ys ∧ w'.ownsRow base 32 1 v ys.length (ys.map (Value.float .f64)) ∧ Below base w w' := by
  rcases Nat.eq_zero_or_pos xs.length with h0 | h0
  · obtain ⟨A, c, rfl, _⟩ := own_form hr
    obtain rfl : xs = [] := List.eq_nil_of_length_eq_zero h0
    refine sortF_of A 0 c w hz _ fun l _ => ?_
    refine (pdq_none A c l w).mono ?_
    rintro e w' ⟨rfl, rfl⟩
    exact ⟨rfl, [], List.Perm.refl _, fun i j _ hj => absurd hj (Nat.not_lt_zero _), hr, Below.refl _ _⟩
  · rcases hr.2 with ⟨_, h1⟩ | ⟨g, cap, cur, rfl, hg, hh, hn, hc, hs, ht⟩
    · omega
    · rw [Nat.mul_one] at ht
      have hgl := (Array.getElem?_eq_some_iff.1 hh).1
      have hH := holds_of_blockF hh ht
      have S : At w g 0 xs.length xs.toArray w := ⟨SW.start hH, by simp, _, ⟨oneF, hH, hgl⟩, by simp⟩
      refine sortF_of (some ⟨g, 0, none⟩) xs.length cap w hz _ fun l hl => ?_
      refine (pdq_all w g 0 cap xs.length hz xs.length 0 xs.length l 0 xs.length l _ w (Nat.le_refl _) rfl rfl rfl (Nat.zero_le _) (Nat.le_refl _) hl S (Or.inl rfl)).mono ?_
      rintro e w' ⟨rfl, d', hP, hQ, hS⟩
      obtain ⟨⟨m, os, rfl⟩, hsz, _⟩ := hS
      have e1 : xs.toArray.size = xs.length := by simp
      have hp : d'.toList.Perm xs := perm_list (d := xs.toArray) (by rw [e1]; exact hP)
      have hl : d'.toList.length = xs.length := hp.length_eq
      refine ⟨rfl, d'.toList, hp, rises_list (by rw [hsz]; exact hQ), ?_, (Below.refl base w).grown (grownBy_sortedF _) hb (fun k e => by cases e; exact hg)⟩
      rw [hl]
      exact ownsRow_sortedF (ts := d'.toList) hl hg hh hn hc hs

set_option maxHeartbeats 400000 in
/-- slices.Sorted -/
theorem sortedF_calls {Kp : World → World → Prop} {S Sp : List Nat → Prop} (w : World) (N g : Nat) (lb : Array Value)
    (eg : ∀ args W, (callFunc g args).run Try.prog W = .ok (.enter g args) W)
    (hseq : SeqStopsK Fence.wide 4 Try.prog g lb (fun x : Nat => #[Value.float .f64 x]) Kp S Sp N w)
    (hKt : ∀ {A B C : World}, Kp A B → Kp B C → Kp A C) (hKb : ∀ (W : World) (l : Nat) (o o' : Obj), w.heap.size ≤ l → W.heap[l]? = some o → o.isCells = false → o.isWalk = false → Kp W (W.putObj l o'))
    (hKp : ∀ W W' : World, Below w.heap.size W W' → KeepsOthers W W' → Kp W W') (hN : N * 8 ≤ 140737488355328) (hS : ∀ xs, S xs → xs.length ≤ N) :
    Calls Try.prog 19 #[.func (.func g) #[] lb] w fun e w' =>
      ∃ v xs ys, e = .returned v ∧ S xs ∧ List.Perm ys xs ∧ Rises ys ∧ w'.ownsRow w.heap.size 32 1 v ys.length (ys.map (Value.float .f64)) ∧ Below w.heap.size w w' := by
  have Hc := Lib.hid (collectF_calls w N g lb eg hseq hKt hKb hKp hN)
  have HS := Lib.hid hS
  clear hKt hKb hKp hseq eg hS
  go_enter Try.func19, Try.ntmps19
  go_wp2_with fail
  refine Hc.out.mono ?_
  rintro e w1 ⟨v, xs, rfl, hS, hr, hnil, hb⟩
  have hxl := HS.out xs hS
  have hso := Lib.hid (sortF_calls w1 w.heap.size v xs hr hb.size (by omega))
  obtain ⟨A, c, rfl, _⟩ := own_form hr
  clear hnil hr
  go_wp2_with fail
  refine hso.out.mono ?_
  rintro e w2 ⟨rfl, ys, hp, hri, hr2, hb2⟩
  have Hp := Lib.hid hp
  have Hri := Lib.hid hri
  have Hr := Lib.hid hr2
  clear hp hri hr2 hso
  go_wp2_with fail
  go_ret
  exact ⟨_, xs, ys, rfl, hS, Hp.out, Hri.out, Hr.out, hb.trans hb2⟩

end Go.Proofs.Ytlibakmllogcdaa
