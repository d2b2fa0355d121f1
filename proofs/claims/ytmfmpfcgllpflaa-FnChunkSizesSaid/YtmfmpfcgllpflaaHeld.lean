/-
  Parts that were copied, one behind the other, into rows of the call's own. No statement is proved here.
-/
import Derived.Test.YtmfmpfcgllpflaaConcatChunks
namespace Go.Proofs.Ytmfmpfcgllpflaa
open Go.RowKit Go.Shelf

/-- A copied part: its block, its room, its numbers. -/
abbrev Cp : Type := Nat × Nat × List Int
abbrev valP (p : Cp) : Value := .slice (some ⟨p.1, 0, none⟩) p.2.2.length p.2.1

/-- The row v holds copies of the lists L, none of them in the block ub. -/
def HeldP (W : World) (base : Nat) (v : Value) (ub : Option Nat) (L : List (List Int)) : Prop :=
  ∃ ps : List Cp, ps.map (fun p => p.2.2) = L ∧ W.ownsRow base 23 1 v ps.length (ps.map valP) ∧ ∀ p ∈ ps, W.ownsRow base 3 1 (valP p) p.2.2.length (p.2.2.map (Value.int .i64)) ∧ ub ≠ some p.1

theorem own_keep {W W' : World} {row : Option Nat} {base sz n : Nat} {e : TypeId} {v : Value} {xs : List Value} (h : W.ownsRow base e sz v n xs) (hg : W.grownBy W' row)
    (hne : ∀ r, row = some r → r < base ∨ W.heap.size ≤ r ∨ (∃ o : Obj, W.heap[r]? = some o ∧ o.isCells = false) ∨ (∃ cur e' q, W.heap[r]? = some (.cells cur e' q) ∧ e' ≠ e) ∨ v.ownBlock ≠ some r) : W'.ownsRow base e sz v n xs := by
  refine h.kept hg ?_
  rcases h.2 with ⟨rfl, _⟩ | ⟨g, cap, cur, rfl, hb, hgb, _⟩
  · exact .inl rfl
  · refine .inr fun e' => ?_
    have e1 : row = some g := by rw [← e']; rfl
    have hlt := (Array.getElem?_eq_some_iff.1 hgb).1
    rcases hne g e1 with h1 | h1 | ⟨o, h1, h2⟩ | ⟨c2, e2, q, h1, h2⟩ | h1
    · omega
    · omega
    · rw [hgb] at h1; cases h1; cases h2
    · rw [hgb] at h1; cases h1; exact h2 rfl
    · exact h1 rfl

theorem own_type {W : World} {base sz n : Nat} {e : TypeId} {v : Value} {xs : List Value} (h : W.ownsRow base e sz v n xs) {r : Nat} (hr : v.ownBlock = some r) : ∃ cur q, W.heap[r]? = some (.cells cur e q) := by
  rcases h.2 with ⟨rfl, _⟩ | ⟨g, cap, cur, rfl, hb, hgb, _⟩
  · cases hr
  · cases hr
    exact ⟨cur, _, hgb⟩

theorem HeldP.keep {W W' : World} {row : Option Nat} {base : Nat} {v : Value} {ub : Option Nat} {L : List (List Int)} (h : HeldP W base v ub L) (hg : W.grownBy W' row)
    (hne : ∀ r, row = some r → r < base ∨ W.heap.size ≤ r ∨ (∃ o : Obj, W.heap[r]? = some o ∧ o.isCells = false)) : HeldP W' base v ub L := by
  obtain ⟨ps, h1, h2, h3⟩ := h
  have hne' : ∀ {e : TypeId} {v : Value} r, row = some r → r < base ∨ W.heap.size ≤ r ∨ (∃ o : Obj, W.heap[r]? = some o ∧ o.isCells = false) ∨ (∃ cur e' q, W.heap[r]? = some (.cells cur e' q) ∧ e' ≠ e) ∨ v.ownBlock ≠ some r := fun r e => by
    rcases hne r e with h | h | h
    · exact .inl h
    · exact .inr (.inl h)
    · exact .inr (.inr (.inl h))
  exact ⟨ps, h1, own_keep h2 hg hne', fun p hp => ⟨own_keep (h3 p hp).1 hg hne', (h3 p hp).2⟩⟩

theorem HeldP.nil (W : World) (base : Nat) (ub : Option Nat) : HeldP W base (.slice none 0 0) ub [] := ⟨[], rfl, World.ownsRow_nil _ _ _ _, fun p hp => by cases hp⟩

/-- One part more. -/
theorem held_push {W w1 w2 : World} {base : Nat} {v v1 v2 : Value} {ub : Option Nat} {ps : List Cp} {l : List Int} {o o2 : Obj}
    (hv : W.ownsRow base 23 1 v ps.length (ps.map valP)) (hps : ∀ p ∈ ps, W.ownsRow base 3 1 (valP p) p.2.2.length (p.2.2.map (Value.int .i64)) ∧ ub ≠ some p.1) (hub : ∀ r, ub = some r → r < W.heap.size)
    (hg1 : (W.alloc o).grownBy w1 (some W.heap.size)) (hr1 : w1.ownsRow base 3 1 v1 l.length (l.map (Value.int .i64))) (hl : 0 < l.length) (hn1 : v1.ownBlock = some W.heap.size ∨ v1.ownBlock = some (W.heap.size + 1))
    (hg2 : (w1.alloc o2).grownBy w2 v.ownBlock) (hr2 : w2.ownsRow base 23 1 v2 (ps.length + 1) (ps.map valP ++ [v1])) : HeldP w2 base v2 ub (ps.map (fun p => p.2.2) ++ [l]) := by
  obtain ⟨g, c, rfl⟩ := own_pos hr1 hl
  have hv1 : (w1.alloc o2).ownsRow base 23 1 v ps.length (ps.map valP) := (own_keep (hv.alloc o) hg1 (fun r e => by cases e; right; right; right; right; intro e; have := (hv.lt _ e).2; omega)).alloc o2
  have key : ∀ {v' : Value} {n : Nat} {xs : List Value}, (w1.alloc o2).ownsRow base 3 1 v' n xs → w2.ownsRow base 3 1 v' n xs := fun {v'} {n} {xs} h => own_keep h hg2 (fun r e => by
    obtain ⟨cur, q, h1⟩ := own_type hv1 e
    exact .inr (.inr (.inr (.inl ⟨cur, _, q, h1, by decide⟩))))
  refine ⟨ps ++ [(g, c, l)], by simp, by simpa using hr2, fun p hp => ?_⟩
  rcases List.mem_append.1 hp with hp | hp
  · refine ⟨key ((own_keep ((hps p hp).1.alloc o) hg1 (fun r e => ?_)).alloc o2), (hps p hp).2⟩
    cases e
    right; right; right; right
    intro e
    have := ((hps p hp).1.lt _ e).2
    omega
  · obtain rfl := List.mem_singleton.1 hp
    refine ⟨key (hr1.alloc o2), fun e => ?_⟩
    have h1 := hub _ e
    rcases hn1 with h2 | h2 <;> · simp [Value.ownBlock] at h2; simp at h1; omega

/-- A number more in the other row. -/
theorem held_other {W w1 : World} {base : Nat} {v u u' : Value} {L : List (List Int)} {n : Nat} {xs : List Value} {o : Obj} (h : HeldP W base v u.ownBlock L) (hu : W.ownsRow base 3 1 u n xs)
    (hg : (W.alloc o).grownBy w1 u.ownBlock) (hn : u'.ownBlock = u.ownBlock ∨ u'.ownBlock = some (W.heap.size + 1)) : HeldP w1 base v u'.ownBlock L := by
  obtain ⟨ps, h1, h2, h3⟩ := h
  refine ⟨ps, h1, own_keep (h2.alloc o) hg (fun r e => ?_), fun p hp => ⟨own_keep ((h3 p hp).1.alloc o) hg (fun r e => ?_), fun e => ?_⟩⟩
  · obtain ⟨cur, q, hh⟩ := own_type (hu.alloc o) e
    exact .inr (.inr (.inr (.inl ⟨cur, _, q, hh, by decide⟩)))
  · right; right; right; right
    intro e'
    exact (h3 p hp).2 (e.trans (by simpa [Value.ownBlock] using e'.symm))
  · rcases hn with hn | hn
    · exact (h3 p hp).2 (hn ▸ e)
    · rw [hn] at e
      have := ((h3 p hp).1.lt p.1 rfl).2
      simp at e
      omega

theorem HeldP.sees {W : World} {base : Nat} {v : Value} {ub : Option Nat} {L : List (List Int)} (h : HeldP W base v ub L) : SeesL W W.heap.size v L := by
  obtain ⟨ps, rfl, h2, h3⟩ := h
  refine ⟨_, by rw [List.length_map]; exact Sees.own h2, fun i hi => ?_⟩
  rw [List.length_map] at hi
  refine ⟨valP ps[i], by simp [hi], ?_⟩
  have := SeesI.own (h3 ps[i] (List.getElem_mem hi)).1
  simpa using this

theorem HeldP.base {W : World} {base base' : Nat} {v : Value} {ub : Option Nat} {L : List (List Int)} (h : HeldP W base v ub L) (hb : base' ≤ base) : HeldP W base' v ub L := by
  obtain ⟨ps, h1, h2, h3⟩ := h
  exact ⟨ps, h1, own_base h2 hb, fun p hp => ⟨own_base (h3 p hp).1 hb, (h3 p hp).2⟩⟩

/-- A box whose own value is stored again. -/
theorem Boxed.same {W : World} {B : Nat} {t : TypeId} {v : Value} (h : Boxed W B t v) : W.setCell ⟨B, 0, none⟩ v = W := by
  obtain ⟨hlt, hk⟩ := Array.getElem?_eq_some_iff.1 h
  have e : (W.setCell ⟨B, 0, none⟩ v).heap = W.heap := by
    apply Array.ext
    · simp [World.setCell]
    · intro i h1 h2
      have h3 : (W.setCell ⟨B, 0, none⟩ v).heap[i]? = W.heap[i]? := by
        by_cases hi : i = B
        · subst hi
          exact (show (W.setCell ⟨i, 0, none⟩ v).heap[i]? = _ from h.set v).trans h.symm
        · exact Below.heap_setCell _ _ _ _ hi
      rw [Array.getElem?_eq_getElem h1, Array.getElem?_eq_getElem h2] at h3
      exact Option.some.inj h3
  show ({ W with heap := _ } : World) = W
  have e' : ({ W with heap := (W.setCell ⟨B, 0, none⟩ v).heap } : World) = W := by rw [e]
  exact e'

/-- In a fenced walk, one operation: append of whatever is seen onto an own row. -/
theorem wpIn_append_sees {P : Program} (w : World) {F : Fence} {nF : Nat} {o : Oper} {a : Act} {K : Act → World → Prop} {Q : Exit → Act → World → Prop} (s x : Operand) (t : TypeId)
    (ho : o.op = .call { callee := .builtin .append, args := #[s, x], argTypes := #[t, t] })
    (base : Nat) (e : TypeId) (i : TypeInfo) (z : Value) (size bytes : Nat) (ht : P.underlying t = some (.slice e)) (hi : P.info? e = some i) (hz : i.zero = some z)
    (hsize : i.size = size) (hby : i.bytes = bytes) (hzs : z.cells.size = size) (hsz : 0 < size)
    (v : Value) (n : Nat) (xs : List Value) (hv : a.eval s = v) (hown : w.ownsRow base e size v n xs)
    (B : Nat) (sv : Value) (m : Nat) (news : List Value) (hx : a.eval x = sv) (hs : Sees w B size sv m news) (h1 : ∀ u ∈ news, u.oneCell' = true)
    (h63 : n + m ≤ maxLen) (hbytes : (n + m) * bytes ≤ 140737488355328) (hbase : base ≤ w.heap.size)
    (h : ∀ v' w', w'.ownsRow base e size v' (n + m) (xs ++ news) → w.grownBy w' v.ownBlock → (v' = .slice none 0 0 ↔ v = .slice none 0 0 ∧ m = 0) → (v'.ownBlock = v.ownBlock ∨ v'.ownBlock = some w.heap.size) → K (a.put o.dst v') w') : o.wpIn F nF P a w K Q := by
  obtain ⟨v', w', hrun, h2, h3, h4, h5⟩ := run_append_sees (P := P) w base t o.type e i z size bytes ht hi hz hsize hby hzs hsz v n xs hown B sv m news hs h1 h63 hbytes hbase
  unfold Oper.wpIn
  refine ⟨?_, ?_⟩
  · simp [Oper.about, ho, resolve, Target.leads, Sem.run_pure]
  · rw [Oper.semAt_plain F _ _ (by rw [ho]; intro c hc'; cases hc')]
    unfold execOp
    simp only [ho, resolve, invoke, builtin, Sem.run_bind, Sem.run_pure, Result.andThen_ok, List.map_toArray, List.map_cons, List.map_nil, hv, hx, hrun]
    exact h v' w' h2 h3 h4 h5

end Go.Proofs.Ytmfmpfcgllpflaa
