/-
  The contracts of slices.SortStableFunc, slices.SortedStableFunc by the ranks of a table, impl.SortedStableFunc. No statement is proved here.
-/
import Derived.Test.YtpnlindmcomikaaStable
import Derived.Test.YtpnlindmcomikaaStLaw
import Derived.Test.YtpnlindmcomikaaSortedFunc
import Derived.Test.YtpnlindmcomikaaNumbers
namespace Go.Proofs.Ytpnlindmcomikaa
open Go.RowKit Go.Shelf Go.Sort Go.Lib

theorem stable_cells {d : Array Tg} : d.toList.map encT = (d.toList.map (·.1)).map (Value.int .i64) := by
  rw [List.map_map]
  rfl
theorem putRow_tagged (w : World) (bk off : Nat) (d : Array Tg) : putRow encT w bk off d = putRow (Value.int .i64) w bk off (d.map (·.1)) := by
  unfold putRow
  congr 1
  funext c
  refine Array.ext (by simp [putCells]) (fun i h1 h2 => ?_)
  simp only [putCells, Array.getElem_mapIdx, Array.size_map, encT_eq]
  split
  · rename_i h
    rw [getElem!_pos d (i - off) (by omega), getElem!_pos (d.map (·.1)) (i - off) (by rw [Array.size_map]; omega), Array.getElem_map]
  · rfl
theorem sortWorld_tagged (w : World) (bk off m : Nat) (d : Array Tg) (os : Array Obj) : sortWorld encT w bk off m d os = sortWorld (Value.int .i64) w bk off m (d.map (·.1)) os := by
  unfold sortWorld
  rw [putRow_tagged]

/-- slices.SortStableFunc by ranks -/
theorem sortStable_calls (w : World) (base bx : Nat) (v tv : Value) (xs tb : List Int) (hr : w.ownsRow base 3 1 v xs.length (xs.map (Value.int .i64))) (hb : base ≤ w.heap.size) (hz : xs.length < 1152921504606846976)
    (hbx : w.cell? ⟨bx, 0, none⟩ = some tv) (hbl : bx < base) (hs : SeesI w base tv tb) (hzt : tb.length ≤ 1000000000000000000) :
    Calls Try.prog 36 #[v, .func (.func 34) #[] #[.pointer (some ⟨bx, 0, none⟩)]] w fun e w' =>
      e = .returned (.tuple #[]) ∧ w'.ownsRow base 3 1 v (stb tb xs).length ((stb tb xs).map (Value.int .i64)) ∧ Below base w w' := by
  cases xs with
  | nil =>
    obtain ⟨A, c, rfl, _⟩ := own_form hr
    have hins := Lib.hid (fun W => Try.insertionSortCmpFunc_none (α := Int) A c (.func (.func 34) #[] #[.pointer (some ⟨bx, 0, none⟩)]) W)
    have hst : Calls Try.prog 41 #[.slice A 0 c, .int .i64 0, .func (.func 34) #[] #[.pointer (some ⟨bx, 0, none⟩)]] w fun e w' => e = .returned (.tuple #[]) ∧ w' = w := by
      clear hr hbx hs
      go_enter Try.func41, Try.ntmps41
      go_wp2
      refine wp_loop_rounds 1 ?_
      rw [rounds_succ]
      go_wp2_with (go_at_call 42; refine (hins.out _).mono ?_; rintro e w1 ⟨rfl, rfl⟩)
      refine wp_loop_rounds 1 ?_
      rw [rounds_succ]
      go_wp2
      go_end0
      exact ⟨rfl, rfl⟩
    have Hst := Lib.hid hst
    have Hr := Lib.hid hr
    clear hst hr hins hbx hs
    simp only [List.length_nil]
    go_enter Try.func36, Try.ntmps36
    go_wp2_with (go_at_call 41; refine Hst.out.mono ?_; rintro e w1 ⟨rfl, rfl⟩)
    go_end0
    exact ⟨rfl, Hr.out, Below.refl _ _⟩
  | cons x xs =>
    rcases hr.2 with ⟨_, h0⟩ | ⟨g, cap, cur, rfl, hg, hh, hn, hc, hsz, ht⟩
    · simp at h0
    · rw [Nat.mul_one] at ht
      have hH0 : Holds (Value.int .i64) w g 0 (x :: xs).toArray := holds_of_blockI hh ht
      have hgl := (Array.getElem?_eq_some_iff.1 hh).1
      have hsz1 := tagged_size (x :: xs)
      have hH : Holds encT w g 0 (tagged (x :: xs)) := fun i hi => by
        have h1 := hH0 i (by rw [List.size_toArray]; omega)
        rw [tagged_at _ i (by omega)]
        rw [getElem!_pos (x :: xs).toArray i (by rw [List.size_toArray]; omega)] at h1
        simpa [encT] using h1
      have R : Row1 encT w g 0 (tagged (x :: xs)) := ⟨fun _ => rfl, hH, hgl⟩
      have hbel : ∀ (m : Nat) (os : Array Obj) (dk : Array Tg), Below base w (sortWorld encT w g 0 m dk os) := fun m os dk => by
        rw [sortWorld_tagged]
        exact (Below.refl base w).grown (grownBy_sortedI _) hb (fun k e => by cases e; exact hg)
      have hcmp : ∀ (m : Nat) (os : Array Obj) (dk : Array Tg) (a b : Int), Calls Try.prog 34 #[.int .i64 a, .int .i64 b, .pointer (some ⟨bx, 0, none⟩)] (sortWorld encT w g 0 m dk os) fun e w' => e = .returned (.int .i64 (ck tb a b)) ∧ sortWorld encT w g 0 m dk os = w' := fun m os dk a b =>
        cmp_calls _ base bx tv tb a b (((hbel m os dk).cell (p := ⟨bx, 0, none⟩) hbl).trans hbx) (hs.below (hbel m os dk)) hzt
      have HC : CmpOk w g 0 bx tb := fun dk W ⟨m, os, hW⟩ a b => by subst hW; exact hcmp m os dk a b
      have HL : CmpLays1 Try.prog 34 #[.pointer (some ⟨bx, 0, none⟩)] encT (cfT tb) g 0 (tagged (x :: xs)).size w := CmpReads.lays (fun m os dk _ a b => (hcmp m os dk a.1 b.1).mono fun e w' ⟨he, hw⟩ => ⟨he, 0, hw.symm⟩)
      have hst := stable_calls w g 0 bx cap tb (tagged (x :: xs)) R HC HL (by rw [hsz1]; exact hz) (fun i hi => by rw [tagged_at _ i (by omega)])
      rw [hsz1] at hst
      have Hst := Lib.hid hst
      have fin : ∀ w' d', PermIn 0 (x :: xs).length (tagged (x :: xs)) d' → SortedIn (lx (rk tb)) 0 (x :: xs).length d' → SW encT w g 0 d' w' → w'.ownsRow base 3 1 (.slice (some ⟨g, 0, none⟩) (x :: xs).length cap) (stb tb (x :: xs)).length ((stb tb (x :: xs)).map (Value.int .i64)) ∧ Below base w w' := by
        rintro w' d' hp hso ⟨n, os, rfl⟩
        have hl := stable_list tb (x :: xs) d' (by rw [hsz1]; exact hp) (by rw [hsz1]; exact hso)
        have hlen : (stb tb (x :: xs)).length = (x :: xs).length := stb_length tb _
        have h1 := ownsRow_sortedI (os := os) (n := n) (ts := stb tb (x :: xs)) hlen hg hh hn hc hsz
        refine ⟨?_, hbel n os d'⟩
        rw [sortWorld_tagged, hlen]
        have e1 : d'.map (·.1) = (stb tb (x :: xs)).toArray := by
          apply Array.toList_inj.1
          rw [Array.toList_map, hl]
        rw [e1]
        simpa [sortWorld] using h1
      have Hfin := Lib.hid fin
      clear hst fin HC HL hcmp hbel hH hH0 R hh ht hr hbx hs
      go_enter Try.func36, Try.ntmps36
      go_wp2_with fail
      refine Hst.out.mono ?_
      rintro e w1 ⟨rfl, d', hp, hso, hS⟩
      have := Hfin.out w1 d' hp hso hS
      have Hthis := Lib.hid this
      clear this hp hso hS
      go_wp2
      go_end0
      exact ⟨rfl, Hthis.out⟩

set_option maxHeartbeats 400000 in
/-- slices.SortedStableFunc by ranks -/
theorem sortedStable_calls {Kp : World → World → Prop} {S Sp : List Int → Prop} (w : World) (N g bx : Nat) (lb : Array Value) (tv : Value) (tb : List Int)
    (hbx : w.cell? ⟨bx, 0, none⟩ = some tv) (hbl : bx < w.heap.size) (hs : SeesI w w.heap.size tv tb) (hzt : tb.length ≤ 1000000000000000000)
    (eg : ∀ args W, (callFunc g args).run Try.prog W = .ok (.enter g args) W)
    (hseq : SeqStopsK Fence.wide 4 Try.prog g lb (fun x : Int => #[Value.int .i64 x]) Kp S Sp N w)
    (hKt : ∀ {A B C : World}, Kp A B → Kp B C → Kp A C) (hKb : ∀ (W : World) (l : Nat) (o o' : Obj), w.heap.size ≤ l → W.heap[l]? = some o → o.isCells = false → o.isWalk = false → Kp W (W.putObj l o'))
    (hKp : ∀ W W' : World, Below w.heap.size W W' → KeepsOthers W W' → Kp W W') (hN : N * 8 ≤ 140737488355328) (hS : ∀ xs, S xs → xs.length ≤ N) :
    Calls Try.prog 24 #[.func (.func g) #[] lb, .func (.func 34) #[] #[.pointer (some ⟨bx, 0, none⟩)]] w fun e w' =>
      ∃ v xs, e = .returned v ∧ S xs ∧ w'.ownsRow w.heap.size 3 1 v (stb tb xs).length ((stb tb xs).map (Value.int .i64)) ∧ (v = .slice none 0 0 ↔ xs = []) ∧ Below w.heap.size w w' := by
  have Hc := Lib.hid (collect_calls w N g lb eg hseq hKt hKb hKp hN)
  have HS := Lib.hid hS
  clear hKt hKb hKp hseq eg hS
  go_enter Try.func24, Try.ntmps24
  go_wp2_with fail
  refine Hc.out.mono ?_
  rintro e w1 ⟨v, xs, rfl, hS, hr, hnil, hb⟩
  have hxl := HS.out xs hS
  have Hn := Lib.hid hnil
  have hso := Lib.hid (sortStable_calls w1 w.heap.size bx v tv xs tb hr hb.size (by omega) ((hb.cell (p := ⟨bx, 0, none⟩) hbl).trans hbx) hbl (hs.below hb) hzt)
  obtain ⟨A, c, rfl, _⟩ := own_form hr
  clear hnil hr
  go_wp2_with fail
  refine hso.out.mono ?_
  rintro e w2 ⟨rfl, hr2, hb2⟩
  go_wp2_with fail
  go_ret
  exact ⟨_, xs, rfl, hS, hr2, Hn.out, hb.trans hb2⟩

/-- What impl.SortedStableFunc hands back. -/
def SortedStablePost (w : World) (zs tb : List Int) (e : Ending) (w' : World) : Prop :=
  ∃ v b, e = .returned (.tuple #[v, .bool b]) ∧ w'.ownsRow w.heap.size 3 1 v (stb tb zs).length ((stb tb zs).map (Value.int .i64)) ∧ (b = true ↔ zs = []) ∧ Below w.heap.size w w'

set_option maxHeartbeats 400000 in
/-- impl.SortedStableFunc -/
theorem implSortedStable_calls (w : World) (sv tv : Value) (zs tb : List Int) (hI : SeesI w w.heap.size sv zs) (hT : SeesI w w.heap.size tv tb) (hz : zs.length * 8 ≤ 140737488355328) (hzt : tb.length ≤ 1000000000000000000) :
    Calls Try.prog 10 #[sv, tv] w (SortedStablePost w zs tb) := by
  obtain ⟨A, c, rfl, _⟩ := hI.form
  obtain ⟨At, ct, rfl, _⟩ := hT.form
  have he := fun (W : World) (a : Option Addr) (n c : Nat) => Lib.run_eql_slice_nil (P := Try.prog) W 23 3 a n c 0 0 Try.underlying23
  go_enter Try.func10, Try.ntmps10
  go_wp2_with (first
    | (go_at_call 22; refine (numbers_calls _ _ _ _).mono ?_; rintro e w' ⟨rfl, rfl⟩)
    | (go_at_call 23; refine (byRank_calls _ _ _ _).mono ?_; rintro e w' ⟨rfl, rfl⟩))
  have bN := (Boxed.new w 23 (.slice A zs.length c)).alloc (.cells #[.slice At tb.length ct] 23)
  have bT := Boxed.new (w.alloc (.cells #[.slice A zs.length c] 23)) 23 (.slice At tb.length ct)
  have hb2 := ((Below.refl _ w).alloc (Nat.le_refl _) (.cells #[.slice A zs.length c] 23)).alloc (by simp) (.cells #[.slice At tb.length ct] 23)
  have hsz : ((w.alloc (.cells #[.slice A zs.length c] 23)).alloc (.cells #[.slice At tb.length ct] 23)).heap.size = w.heap.size + 2 := by simp
  rw [World.size_alloc] at bT
  generalize (w.alloc (.cells #[.slice A zs.length c] 23)).alloc (.cells #[.slice At tb.length ct] 23) = w2 at bN bT hb2 hsz ⊢
  refine (sortedStable_calls w2 zs.length _ (w.heap.size + 1) _ _ tb bT.cell (by omega) ((hT.below hb2).more (by omega)) hzt (enters_of Try.func33 (by kernel_rfl) rfl)
    (numbers_stops 4 (by omega) w.heap.size w.heap.size _ zs (by omega) w2 (by omega) (by omega) bN.cell (hI.below hb2)) belowK_t (belowK_b (by omega)) (fun _ _ h _ => h.mono (by omega)) (by omega) (fun xs e => by rw [e]; exact Nat.le_refl _)).mono ?_
  rintro e w3 ⟨v, xs, rfl, rfl, hr, hnil, hb3⟩
  obtain ⟨A', c', rfl, _⟩ := own_form hr
  have Hn := Lib.hid ((own_isNone hr).trans hnil)
  clear hnil
  go_wp2
  go_ret2
  exact ⟨_, _, rfl, own_base hr (by omega), Hn.out, hb2.trans (hb3.mono (by omega))⟩

end Go.Proofs.Ytpnlindmcomikaa
