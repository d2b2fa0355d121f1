/-
  The walk of the law FnInsertTwice: it returns true and writes nothing that was there.
-/
import Derived.Test.YtaeeiociiojciaaDrawPairs
import Derived.Test.YtaeeiociiojciaaSevenPairs
import Derived.Test.YtaeeiociiojciaaInsertMap
import Derived.Test.YtaeeiociiojciaaMapInsert
import Derived.Test.YtaeeiociiojciaaMapMore
import Derived.Test.YtaeeiociiojciaaSamePairs
namespace Go.Proofs.Ytaeeiociiojciaa
open Go.RowKit Go.Shelf Go.Maps

theorem mapU_pair7 : (mapU [((7 : Int), (1 : Int))]).length = 1 := by decide
theorem Graph.mkm {ps : List (Int × Int)} {f : FMap} (h : Graph ps f) : mkm ps = f := by
  funext k
  have h1 := fun v => (mkm_nodup (rising_nodup h.1) k v).symm.trans (h.2 k v)
  cases hf : f k with
  | some v => exact (h1 v).2 hf
  | none =>
    cases hm : Go.Proofs.Ytaeeiociiojciaa.mkm ps k with
    | none => rfl
    | some v => rw [(h1 v).1 hm] at hf; cases hf

theorem sees_none (w : World) (B : Nat) : SeesP w B (.slice none 0 0) [] := ⟨rfl, none, 0, rfl, Nat.le_refl _, fun h => absurd h (Nat.lt_irrefl _)⟩
theorem fits_none : Fits [] := fun _ h => by cases h
theorem orm_none (f : FMap) : orm f (Go.Proofs.Ytaeeiociiojciaa.mkm []) = f := funext fun k => by simp [orm, Go.Proofs.Ytaeeiociiojciaa.mkm, ups, noMap]
theorem orm_again (f g : FMap) : orm f (orm f g) = orm f g := funext fun k => by unfold orm; cases f k <;> rfl
theorem orm_assoc (f g h : FMap) : orm (orm f g) h = orm f (orm g h) := funext fun k => by unfold orm; cases f k <;> rfl

set_option maxRecDepth 100000 in
set_option maxHeartbeats 1000000 in
theorem fnInsertTwice_walk (w : World) (v0 : Value) (z0 : List Int) (s0 : SeesB w w.heap.size v0 z0) (_ : z0.length * 1 ≤ 140737488351232) (f0 : ∀ z ∈ z0, 0 ≤ z ∧ z ≤ 255) :
    Calls Try.prog 12 #[v0] w fun e w' => e = .returned (.bool true) ∧ Below w.heap.size w w' := by
  obtain ⟨A, c, hv, _⟩ := s0.form
  by_cases hbig : (1048576 : Int) < (z0.length : Int)
  · subst hv
    clear s0 f0
    go_enter Try.func12, Try.ntmps12
    go_wp2
    go_ret
    exact ⟨rfl, Below.refl _ _⟩
  · have hd := Lib.hid (drawThreeMaps_calls w v0 z0 s0 (by omega) f0)
    subst hv
    clear s0 f0
    go_enter Try.func12, Try.ntmps12
    go_wp2_with fail
    refine hd.out.mono ?_
    rintro e w1 ⟨v1, v2, v3, z1, z2, z3, rfl, ⟨s1, l1, g1⟩, ⟨s2, l2, g2⟩, ⟨s3, l3, g3⟩, hB1⟩
    go_wp2_with fail
    refine (insertMap_calls w1 v1 v2 z1 z2 s1 g1 s2 g2 (by omega)).mono ?_
    rintro e w2 ⟨a, ps, rfl, hga, al, ha, hb2⟩
    have hfa := hga.fits_or g2 g1
    have hma := hga.mkm
    have sa_2 := SeesP.own ha
    have s1_2 := (s1.below hb2).more hb2.size
    have s2_2 := (s2.below hb2).more hb2.size
    have s3_2 := (s3.below hb2).more hb2.size
    have hB2 := hB1.trans (hb2.mono hB1.size)
    clear s1 s2 s3
    go_wp2_with fail
    refine (insertMap_calls _ _ _ [] [(7, 1)] (sees_none _ _) fits_none (sees_pair7 _) fits_pair7 (by decide)).mono ?_
    rintro e w3 ⟨o, os, rfl, hgo, ol, ho, hb3⟩
    obtain rfl := hgo.unique (by rw [orm_none]; exact mapU_graph [(7, 1)])
    rw [mapU_pair7] at ho
    obtain ⟨Ao, co, rfl, _⟩ := own_form ho
    clear hgo ol ho
    have hc3 := ((Below.refl w2.heap.size w2).alloc (Nat.le_refl _) (.cells #[.int .i64 7, .int .i64 1] 36)).trans (hb3.mono (by simp))
    have s1_3 := (s1_2.below hc3).more hc3.size
    have s2_3 := (s2_2.below hc3).more hc3.size
    have s3_3 := (s3_2.below hc3).more hc3.size
    have sa_3 := (sa_2.below hc3).more hc3.size
    have hB3 := hB2.trans (hc3.mono hB2.size)
    clear s1_2 s2_2 s3_2 sa_2
    go_wp2_with fail
    refine (insertMap_calls w3 a v2 ps z2 sa_3 hfa s2_3 g2 (by omega)).mono ?_
    rintro e w4 ⟨b, qs, rfl, hgb, bl, hb, hb4⟩
    rw [hma, orm_again] at hgb
    obtain rfl := hga.unique hgb
    clear hgb bl
    have sb_4 := SeesP.own hb
    have s1_4 := (s1_3.below hb4).more hb4.size
    have s2_4 := (s2_3.below hb4).more hb4.size
    have s3_4 := (s3_3.below hb4).more hb4.size
    have sa_4 := (sa_3.below hb4).more hb4.size
    have hB4 := hB3.trans (hb4.mono hB3.size)
    clear s1_3 s2_3 s3_3 sa_3
    go_wp2_with fail
    refine (samePairs_yes w4 _ _ b a _ sb_4 sa_4 (by omega)).mono ?_
    rintro e w5 ⟨rfl, q5, rfl⟩
    have s1_5 := (s1_4.drewN q5).more (B' := (w4.drewN q5).heap.size) (Nat.le_refl _)
    have s2_5 := (s2_4.drewN q5).more (B' := (w4.drewN q5).heap.size) (Nat.le_refl _)
    have s3_5 := (s3_4.drewN q5).more (B' := (w4.drewN q5).heap.size) (Nat.le_refl _)
    have sa_5 := (sa_4.drewN q5).more (B' := (w4.drewN q5).heap.size) (Nat.le_refl _)
    have sb_5 := (sb_4.drewN q5).more (B' := (w4.drewN q5).heap.size) (Nat.le_refl _)
    have hB5 := below_drewN hB4 q5
    clear s1_4 s2_4 s3_4 sa_4 sb_4 hB4
    generalize hW5 : w4.drewN q5 = w5 at s1_5 s2_5 s3_5 sa_5 sb_5 hB5 ⊢
    clear hW5
    go_wp2_with fail
    refine (insertMap_calls w5 a v3 ps z3 sa_5 hfa s3_5 g3 (by omega)).mono ?_
    rintro e w6 ⟨d, ds, rfl, hgd, dl, hd2, hb6⟩
    rw [hma] at hgd
    have sd_6 := SeesP.own hd2
    have s1_6 := (s1_5.below hb6).more hb6.size
    have s2_6 := (s2_5.below hb6).more hb6.size
    have s3_6 := (s3_5.below hb6).more hb6.size
    have sa_6 := (sa_5.below hb6).more hb6.size
    have hB6 := hB5.trans (hb6.mono hB5.size)
    clear s1_5 s2_5 s3_5 sa_5 sb_5
    go_wp2_with fail
    refine (insertMap_calls w6 v2 v3 z2 z3 s2_6 g2 s3_6 g3 (by omega)).mono ?_
    rintro e w7 ⟨f, fs, rfl, hgf, fl, hf, hb7⟩
    have hff := hgf.fits_or g3 g2
    have hmf := hgf.mkm
    have sf_7 := SeesP.own hf
    have s1_7 := (s1_6.below hb7).more hb7.size
    have s2_7 := (s2_6.below hb7).more hb7.size
    have sa_7 := (sa_6.below hb7).more hb7.size
    have sd_7 := (sd_6.below hb7).more hb7.size
    have hB7 := hB6.trans (hb7.mono hB6.size)
    clear s1_6 s2_6 s3_6 sa_6 sd_6
    go_wp2_with fail
    refine (insertMap_calls w7 v1 f z1 fs s1_7 g1 sf_7 hff (by omega)).mono ?_
    rintro e w8 ⟨h, hs, rfl, hgh, hl, hh, hb8⟩
    rw [hmf, orm_assoc] at hgh
    obtain rfl := hgd.unique hgh
    clear hgh
    have sh_8 := SeesP.own hh
    have s1_8 := (s1_7.below hb8).more hb8.size
    have s2_8 := (s2_7.below hb8).more hb8.size
    have sa_8 := (sa_7.below hb8).more hb8.size
    have sd_8 := (sd_7.below hb8).more hb8.size
    have hB8 := hB7.trans (hb8.mono hB7.size)
    clear s1_7 s2_7 sa_7 sd_7 sf_7
    go_wp2_with fail
    refine (samePairs_yes w8 _ _ d h _ sd_8 sh_8 (by omega)).mono ?_
    rintro e w9 ⟨rfl, q9, rfl⟩
    have s1_9 := (s1_8.drewN q9).more (B' := (w8.drewN q9).heap.size) (Nat.le_refl _)
    have s2_9 := (s2_8.drewN q9).more (B' := (w8.drewN q9).heap.size) (Nat.le_refl _)
    have sa_9 := (sa_8.drewN q9).more (B' := (w8.drewN q9).heap.size) (Nat.le_refl _)
    have sd_9 := (sd_8.drewN q9).more (B' := (w8.drewN q9).heap.size) (Nat.le_refl _)
    have sh_9 := (sh_8.drewN q9).more (B' := (w8.drewN q9).heap.size) (Nat.le_refl _)
    have hB9 := below_drewN hB8 q9
    clear s1_8 s2_8 sa_8 sd_8 sh_8 hB8
    generalize hW9 : w8.drewN q9 = w9 at s1_9 s2_9 sa_9 sd_9 sh_9 hB9 ⊢
    clear hW9
    go_wp2_with fail
    refine (specMap_calls w9 w9.heap.size v2 z2 s2_9 (Nat.le_refl _) (by omega)).mono ?_
    rintro e w10 ⟨k, rfl, hk, hb10⟩
    have lk := mapU_length z2
    have hfk := (mapU_graph z2).fits g2
    have sk_10 := SeesP.own hk
    have s1_10 := (s1_9.below hb10).more hb10.size
    have sa_10 := (sa_9.below hb10).more hb10.size
    have hB10 := hB9.trans (hb10.mono hB9.size)
    clear s1_9 s2_9 sa_9 sd_9 sh_9
    go_wp2_with fail
    refine (mapInsert_calls w10 v1 k z1 (mapU z2) s1_10 g1 sk_10 hfk (by omega)).mono ?_
    rintro e w11 ⟨m, ms, rfl, hgm, ml, hm, hb11⟩
    rw [orm_ups (mapU_graph z2).seq] at hgm
    obtain rfl := hga.unique hgm
    clear hgm
    have sm_11 := SeesP.own hm
    have sa_11 := (sa_10.below hb11).more hb11.size
    have hB11 := hB10.trans (hb11.mono hB10.size)
    clear s1_10 sa_10 sk_10
    go_wp2_with fail
    refine (samePairs_yes w11 _ _ m a _ sm_11 sa_11 (by omega)).mono ?_
    rintro e w12 ⟨rfl, q, rfl⟩
    go_wp2
    go_ret
    exact ⟨by simp, below_drewN hB11 q⟩

end Go.Proofs.Ytaeeiociiojciaa
