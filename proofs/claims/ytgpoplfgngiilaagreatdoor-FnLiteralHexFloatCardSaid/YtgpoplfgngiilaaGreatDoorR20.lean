/- FnLiteralHexFloat, behind its card (G10). -/
import Derived.Test.YtgpoplfgngiilaaGreatDoorR19
import Derived.Deep.CutRange
set_option linter.unusedVariables false
set_option linter.unusedSimpArgs false
namespace Go.Proofs.YtgpoplfgngiilaaGreatDoor
set_option linter.unusedVariables false
set_option linter.unusedSimpArgs false
open Go.RowKit Go.Proofs.YtgpoplfgngiilaaGreatDoorW.PrintWords

/-- Two Ints, new behind w. -/
def LP (w wc : World) (x1 x2 : Value) (P Q : Nat) (B : Nat) : Prop := ∃ hP hQ gP gQ vP vQ, x1 = .pointer (some ⟨hP, 0, none⟩) ∧ x2 = .pointer (some ⟨hQ, 0, none⟩) ∧ (Iz wc hP vP ∧ Iz wc hQ vQ ∧ NW wc gP vP P ∧ NW wc gQ vQ Q) ∧
  hP ≠ hQ ∧ (w.heap.size ≤ hP ∧ w.heap.size ≤ hQ ∧ w.heap.size ≤ gP ∧ w.heap.size ≤ gQ) ∧ (hP < B ∧ hQ < B)
/-- Ahead of the one Euclidean step: P >= Q, Q one word. -/
def LR (w wc : World) (q : Nat) (x1 x2 : Value) (G : Nat) : Prop := ∃ P Q, LP w wc x1 x2 P Q q ∧ Aside0 (Nat.gcd P Q = G ∧ 0 < Q ∧ Q ≤ P ∧ Q < 18446744073709551616 ∧ (lits 18446744073709551616 P).length ≤ 1000) ∧
  Aside0 (Iz wc q (.slice none 0 0) ∧ Iz wc (q + 1) (.slice none 0 0)) ∧ Aside0 (Fr (fun _ => False) w wc)
/-- Behind it: both one word at most. -/
def LS (w wc : World) (x1 x2 : Value) (G : Nat) : Prop := ∃ hP hQ gP vP vQ x y, x1 = .pointer (some ⟨hP, 0, none⟩) ∧ x2 = .pointer (some ⟨hQ, 0, none⟩) ∧ Aside0 (Iz wc hP vP ∧ Iz wc hQ vQ ∧ NW wc gP vP x ∧ NV w.heap.size wc vQ (lits 18446744073709551616 y)) ∧
  Aside0 (Nat.gcd x y = G ∧ 0 < x ∧ x < 18446744073709551616 ∧ y < 18446744073709551616) ∧ Aside0 (w.heap.size ≤ hP ∧ w.heap.size ≤ gP ∧ hP ≠ gP) ∧ Aside0 (Fr (fun _ => False) w wc)
/-- A is the answer. -/
def LT (w wc : World) (x1 : Value) (G : Nat) : Prop := ∃ hP gP vP, x1 = .pointer (some ⟨hP, 0, none⟩) ∧ Aside0 (Iz wc hP vP ∧ NW wc gP vP G) ∧ Aside0 (w.heap.size ≤ hP ∧ w.heap.size ≤ gP) ∧ Aside0 (Fr (fun _ => False) w wc)

theorem NW.ne {w : World} {g h : Nat} {v u : Value} {n : Nat} (h1 : NW w g v n) (h2 : Iz w h u) : h ≠ g := by
  intro e
  subst e
  obtain ⟨ys, e1, h3, -⟩ := h1
  have h4 := (show w.heap[h]? = _ from h2).symm.trans (show w.heap[h]? = _ from h3)
  injection h4 with h4
  injection h4 with h4 h5
  cases h5
theorem NW.put0 {w : World} {g : Nat} {v : Value} {x : Nat} (h : NW w g v x) (h0 : 0 < x) (h1 : x < 18446744073709551616) (y : Nat) (hy0 : 0 < y) (hy : y < 18446744073709551616) : NW (w.setCell ⟨g, 0, none⟩ (.int .u64 y)) g v y := by
  have hl := wl_one h0 h1
  have hly := wl_one hy0 hy
  obtain ⟨ys, e1, h2, h3, h4, h5⟩ := h
  rw [hl] at e1 h3
  cases ys with
  | nil => simp at h3
  | cons a t =>
    refine ⟨y :: t, by rw [hly, e1]; rfl, ?_, by rw [hly]; rfl, ?_, h5⟩
    · have := Go.Proofs.YtgpoplfgngiilaaGreatDoorW.PrintWords.blk_set (show w.heap[g]? = _ from h2) 0 (.int .u64 y)
      unfold Nb
      rw [this]
      simp
    · intro z hz
      rcases List.mem_cons.1 hz with rfl | hz
      · exact ⟨by omega, by omega⟩
      · exact h4 z (List.mem_cons_of_mem _ hz)

theorem wl_le_one {n : Nat} (h : (lits 18446744073709551616 n).length ≤ 1) : n < 18446744073709551616 := by
  rcases Nat.lt_or_ge n 18446744073709551616 with h1 | h1
  · exact h1
  · exfalso
    rw [lits_pos _ n (by decide) (by omega)] at h
    have := wl_pos (n := n / 18446744073709551616) (Nat.div_pos h1 (by decide))
    simp at h
    rw [h] at this
    simp at this
theorem NV.base_le {b b' : Nat} {w : World} {v : Value} {xs : List Int} (h : NV b w v xs) (hb : b' ≤ b) : NV b' w v xs := by
  rcases h with h | ⟨g, ys, h1, h2⟩
  · exact Or.inl h
  · exact Or.inr ⟨g, ys, Nat.le_trans hb h1, h2⟩
theorem NV.sl {b : Nat} {w : World} {v : Value} {xs : List Int} (h : NV b w v xs) : ∃ A c, v = .slice A xs.length c := by
  rcases h with ⟨h, h'⟩ | ⟨g, ys, h1, h2, h3⟩
  · exact ⟨_, _, by rw [h, h']; rfl⟩
  · exact ⟨_, _, h2⟩

theorem fr_put1' {S : Nat → Prop} {w W : World} {g : Nat} (h : Fr S w W) (hg : w.heap.size ≤ g) (o : Nat) (x : Value) : Fr S w (W.setCell ⟨g, o, none⟩ x) := h.setCell (p := ⟨g, o, none⟩) (Or.inr hg) x

set_option maxHeartbeats 8000000 in
set_option maxRecDepth 1000000 in
theorem lehmer (z ga oa gb ob g1 g2 N D : Nat) (u v : Value) (w : World) (hz : Iz w z (.slice none 0 0)) (ha : IA w ga oa u) (hb : IA w gb ob v) (hu : NW w g1 u N) (hv : NW w g2 v D)
    (hza : z ≠ ga) (hzb : z ≠ gb) (hN : 0 < N) (hD : 0 < D) (hNl : (lits 18446744073709551616 N).length ≤ 1000) (hDl : (lits 18446744073709551616 D).length ≤ 1000)
    (h1 : min N D < 18446744073709551616)
    (hc : (lits 18446744073709551616 N).length ≠ (lits 18446744073709551616 D).length ∨ (N < 18446744073709551616 ∧ D < 18446744073709551616)) :
    Calls Tryz.prog 136 #[.pointer (some ⟨z, 0, none⟩), .pointer none, .pointer none, .pointer (some ⟨ga, oa, none⟩), .pointer (some ⟨gb, ob, none⟩)] w fun e w' =>
      ∃ v' g', w.heap.size ≤ g' ∧ e = .returned (.pointer (some ⟨z, 0, none⟩)) ∧ Iz w' z v' ∧ NW w' g' v' (Nat.gcd N D) ∧ Fr (fun k => k = z) w w' := by
  have HA := Aside0.mk (fun W h => abs_new ga oa g1 N u w W ha hu hN hNl h)
  have HB := Aside0.mk (fun W h => abs_new gb ob g2 D v w W hb hv hD hDl h)
  have HZ := Aside0.mk hz
  have HX := Aside0.mk ha
  have HXB := Aside0.mk hb
  have HC := Aside0.mk (And.intro hN (And.intro hD (And.intro hNl (And.intro hDl (And.intro h1 hc)))))
  have a0 := ha.cells.1
  have HL := Aside0.mk (And.intro hz.lt (And.intro ha.lt hb.lt))
  obtain ⟨ba, hba⟩ : ∃ b, b = decide (sg N D < 0) := ⟨_, rfl⟩
  clear hz ha hb hu hv hza hzb hN hD hNl hDl h1 hc
  go_enter Tryz.func136, Tryz.ntmps136
  go_upto_region 10 with (first
    | (go_at_call_of 182 (Value.pointer (some (Addr.mk ga oa none))); have mk := HA; clear mk; refine (HA.out _ (Fr.refl _ _)).mono ?_; rintro e w1 ⟨v1, k1, hk1, rfl, h1, h2, h3⟩; have a0' := h3.cellv a0 (fun h => h); have H1 := Aside0.mk (And.intro hk1 (And.intro h1 h2)); have H3 := Aside0.mk h3; clear a0 hk1 h1 h2 h3)
    | (go_at_call_of 182 (Value.pointer (some (Addr.mk gb ob none))); refine (HB.out _ H3.out).mono ?_; rintro e w2 ⟨v2, k2, hk2, rfl, h4, h5, h6⟩; have a0'' := h6.cellv a0' (fun h => h); have H4 := Aside0.mk (And.intro hk2 (And.intro h4 h5)); have H6 := Aside0.mk h6; clear a0' hk2 h4 h5 h6))
  obtain ⟨W, hW⟩ : ∃ W, W = (w2.alloc (.cells #[.bool false, .slice none 0 0] 116)).alloc (.cells #[.bool false, .slice none 0 0] 116) := ⟨_, rfl⟩
  rw [← hW]
  have F2 : Fr (fun _ => False) w2 W := by rw [hW]; exact ((Fr.refl _ _).alloc _).alloc _
  have J1 := H1.out.2.1.far (H6.out.trans F2) (fun h => h)
  have J2 := H1.out.2.2.far (H6.out.trans F2) (fun h => h)
  have J3 := H4.out.2.1.far F2 (fun h => h)
  have J4 := H4.out.2.2.far F2 (fun h => h)
  have J5 : Iz W w2.heap.size (.slice none 0 0) := by
    rw [hW]
    exact Iz.far (S := fun _ => False) (heap_alloc_new w2 (.cells #[.bool false, .slice none 0 0] 116)) ((Fr.refl _ _).alloc _) (fun h => h)
  have J6 : Iz W (w2.heap.size + 1) (.slice none 0 0) := by
    rw [hW]
    have := heap_alloc_new (w2.alloc (.cells #[.bool false, .slice none 0 0] 116)) (.cells #[.bool false, .slice none 0 0] 116)
    simpa [Iz] using this
  have HF := Aside0.mk ((H3.out.trans H6.out).trans F2)
  have a0 := F2.cellv a0'' (fun h => h)
  have H0 := HC.out
  have HM := Aside0.mk (fun W' (h : Fr (fun _ => False) W W') => ncmp_c (J2.far h (fun h => h)) (J4.far h (fun h => h)) H0.1 H0.2.1 H0.2.2.1 H0.2.2.2.1 H0.2.2.2.2.2)
  have x1 := J1.c1
  have x2 := J3.c1
  have HJ := Aside0.mk (And.intro J1 (And.intro J2 (And.intro J3 (And.intro J4 (And.intro J5 J6)))))
  obtain ⟨c1, rfl⟩ := J2.slice
  obtain ⟨c2, rfl⟩ := J4.slice
  have HSZ := Aside0.mk (show w.heap.size < w1.heap.size ∧ w1.heap.size < w2.heap.size ∧ w2.heap.size + 2 = W.heap.size from ⟨by have := H1.out.2.1.lt; exact this, by have := H4.out.2.1.lt; exact this, by rw [hW]; simp⟩)
  obtain ⟨lN, hlN⟩ : ∃ l, (lits 18446744073709551616 N).length = l := ⟨_, rfl⟩
  obtain ⟨lD, hlD⟩ : ∃ l, (lits 18446744073709551616 D).length = l := ⟨_, rfl⟩
  rw [hlN] at x1 HM
  rw [hlD] at x2 HM
  clear hW F2 J1 J2 J3 J4 J5 J6 H0 a0'' hlN hlD
  obtain ⟨S, hS, hS0⟩ : ∃ S : World → Prop, S W.drew ∧ ∀ W', S W' → W'.cell? ⟨w.heap.size, 1, none⟩ = some (.slice (some ⟨k1, 0, none⟩) lN c1) ∧ W'.cell? ⟨w1.heap.size, 1, none⟩ = some (.slice (some ⟨k2, 0, none⟩) lD c2) := ⟨_, ⟨x1, x2⟩, fun _ h => h⟩
  refine wp_region_till S 8 (by kernel_rfl) ?_
  refine till_free (i := 0) (some 51) (v := ?_) rfl rfl (by kernel_rfl) (by kernel_rfl) (by kernel_rfl) (by decide) (fun _ _ _ h => h) (Or.inl ⟨by rfl, ?_⟩) hS ?_
  rotate_left 1
  · ((intro W; go_simp); all_goals (with_reducible rfl))
  (try simp only [Act.put, List.setIfInBounds_toArray, List.set_cons_zero, List.set_cons_succ])
  refine till_free (i := 1) (some 52) (v := ?_) rfl rfl (by kernel_rfl) (by kernel_rfl) (by kernel_rfl) (by decide) (fun _ _ _ h => h) (Or.inl ⟨by rfl, ?_⟩) hS ?_
  rotate_left 1
  · ((intro W; go_simp); all_goals (with_reducible rfl))
  (try simp only [Act.put, List.setIfInBounds_toArray, List.set_cons_zero, List.set_cons_succ])
  refine till_free (i := 2) (some 53) (v := ?_) rfl rfl (by kernel_rfl) (by kernel_rfl) (by kernel_rfl) (by decide) (fun _ _ _ h => h) (Or.inl ⟨by rfl, ?_⟩) hS ?_
  rotate_left 1
  · ((intro W; go_simp); all_goals (with_reducible rfl))
  (try simp only [Act.put, List.setIfInBounds_toArray, List.set_cons_zero, List.set_cons_succ])
  refine till_free (i := 4) (some 55) (v := ?_) rfl rfl (by kernel_rfl) (by kernel_rfl) (by kernel_rfl) (by decide) (fun _ _ _ h => h) (Or.inl ⟨by rfl, ?_⟩) hS ?_
  rotate_left 1
  · ((intro W; go_simp); all_goals (with_reducible rfl))
  (try simp only [Act.put, List.setIfInBounds_toArray, List.set_cons_zero, List.set_cons_succ])
  refine till_free (i := 5) (some 56) (v := ?_) rfl rfl (by kernel_rfl) (by kernel_rfl) (by kernel_rfl) (by decide) (fun _ _ _ h => h) (Or.inl ⟨by rfl, ?_⟩) hS ?_
  rotate_left 1
  · ((intro W; go_simp); all_goals (with_reducible rfl))
  (try simp only [Act.put, List.setIfInBounds_toArray, List.set_cons_zero, List.set_cons_succ])
  refine till_free (i := 6) (some 57) (v := ?_) rfl rfl (by kernel_rfl) (by kernel_rfl) (by kernel_rfl) (by decide) (fun _ _ _ h => h) (Or.inl ⟨by rfl, ?_⟩) hS ?_
  rotate_left 1
  · ((intro W; go_simp); all_goals (with_reducible rfl))
  (try simp only [Act.put, List.setIfInBounds_toArray, List.set_cons_zero, List.set_cons_succ])
  refine till_take (i := 3) (some 54) (v := ?_) rfl rfl (by kernel_rfl) (by kernel_rfl) (by kernel_rfl) (by kernel_rfl) (by kernel_rfl) (fun _ _ _ h => h) (Or.inl ⟨by rfl, ?_⟩) hS ?_
  rotate_left 1
  · ((intro W hW; have hW2 := hS0 W hW; go_simp); all_goals (with_reducible rfl))
  (try simp only [Act.put, List.setIfInBounds_toArray, List.set_cons_zero, List.set_cons_succ])
  refine till_take (i := 7) (some 58) (v := ?_) rfl rfl (by kernel_rfl) (by kernel_rfl) (by kernel_rfl) (by kernel_rfl) (by kernel_rfl) (fun _ _ _ h => h) (Or.inl ⟨by rfl, ?_⟩) hS ?_
  rotate_left 1
  · ((intro W hW; have hW2 := hS0 W hW; go_simp); all_goals (with_reducible rfl))
  (try simp only [Act.put, List.setIfInBounds_toArray, List.set_cons_zero, List.set_cons_succ])
  refine wpTill_call (c := 8) (by kernel_rfl) (by kernel_rfl) (AllReady.cons rfl (fun K hK => ?_) AllReady.nil)
  go_simp
  go_wp2_with (go_at_call 183; refine (HM.out _ (Fr.drew (Fr.refl _ _))).mono ?_; rintro e w3 ⟨rfl, h7⟩; have H7 := Aside0.mk h7; clear h7)
  refine any_take (i := 9) (some 60) (v := ?_) rfl rfl (by kernel_rfl) (by kernel_rfl) (by kernel_rfl) (fun _ _ _ h => h) (Or.inl ⟨by rfl, ?_⟩) ?_
  rotate_left 1
  · ((intro W; go_simp); all_goals (with_reducible rfl))
  (try simp only [Act.put, List.setIfInBounds_toArray, List.set_cons_zero, List.set_cons_succ])
  refine wpAny_done (by kernel_rfl) ?_ _
  clear hS hS0 S
  rw [← hba]
  go_upto_if 60 with fail
  have HB1 := Aside0.mk hba
  clear x1 x2
  have HW3 := Aside0.mk ((Fr.drew (Fr.refl (fun _ => False) W)).trans H7.out)
  go_cut [11, 12, 13, 14] from 60 to 64 (fun s11 s12 s13 s14 wc => s13 = .pointer none ∧ s14 = .pointer none ∧ LR w wc w2.heap.size s11 s12 (Nat.gcd N D))
  case first =>
    clear hba
    cases ba
    · go_wp2_with fail
      go_meet
      obtain ⟨j1, j2, j3, j4, j5, j6⟩ := HJ.out
      obtain ⟨d1, d2, d3⟩ := HSZ.out
      obtain ⟨e1, e2, e3, e4, e5, e6⟩ := HC.out
      have f := HW3.out
      have hle : D ≤ N := Nat.le_of_not_lt (fun h => by have := HB1.out; simp [sg, h] at this)
      refine ⟨rfl, rfl, N, D, ⟨_, _, _, _, _, _, rfl, rfl, ⟨j1.far f (fun h => h), j3.far f (fun h => h), j2.far f (fun h => h), j4.far f (fun h => h)⟩, by omega, ⟨by omega, by omega, by have := H1.out.1; omega, by have := H4.out.1; omega⟩, by omega, by omega⟩, ⟨rfl, e2, hle, by have := Nat.min_eq_right hle; omega, e3⟩, ⟨j5.far f (fun h => h), j6.far f (fun h => h)⟩, ⟨HF.out.trans f⟩⟩
    · go_wp2_with fail
      go_meet
      obtain ⟨j1, j2, j3, j4, j5, j6⟩ := HJ.out
      obtain ⟨d1, d2, d3⟩ := HSZ.out
      obtain ⟨e1, e2, e3, e4, e5, e6⟩ := HC.out
      have f := HW3.out
      have hle : N ≤ D := Nat.le_of_not_lt (fun h => by have := HB1.out; simp [sg, Nat.not_lt.2 (Nat.le_of_lt h)] at this; split at this <;> simp at this)
      refine ⟨rfl, rfl, D, N, ⟨_, _, _, _, _, _, rfl, rfl, ⟨j3.far f (fun h => h), j1.far f (fun h => h), j4.far f (fun h => h), j2.far f (fun h => h)⟩, by omega, ⟨by omega, by omega, by have := H4.out.1; omega, by have := H1.out.1; omega⟩, by omega, by omega⟩, ⟨Nat.gcd_comm _ _, e1, hle, by have := Nat.min_eq_left hle; omega, e4⟩, ⟨j5.far f (fun h => h), j6.far f (fun h => h)⟩, ⟨HF.out.trans f⟩⟩
  case rest =>
    obtain ⟨rfl, rfl, P, Q, ⟨hP, hQ, gP, gQ, vP, vQ, rfl, rfl, hJ, hne, hge, hlt⟩, HI, HQR, HF2⟩ := hcut
    have hI := HI.out
    obtain ⟨y0, y1, cQ, rfl⟩ := hJ.2.2.2.cell0 hI.2.1 hI.2.2.2.1
    obtain ⟨cP, rfl⟩ := hJ.2.2.1.slice
    have x1 := hJ.1.c1
    have x2 := hJ.2.1.c1
    have HJ2 := Aside0.mk (And.intro hJ (And.intro hne (And.intro hge hlt)))
    clear hba hI hJ hne hge hlt HA HB HM H1 H4 HJ H7 HW3 HB1 a0 H3 H6
    obtain ⟨lP, hlP⟩ : ∃ l, (lits 18446744073709551616 P).length = l := ⟨_, rfl⟩
    have HLP := Aside0.mk hlP
    rw [hlP] at x1
    clear hlP
    go_wp2_with fail
    go_loopg [11, 12, 13, 14, 17] 0 (fun kq v11 v12 v13 v14 v17 w' => v11 = .pointer (some ⟨hP, 0, none⟩) ∧ v12 = .pointer (some ⟨hQ, 0, none⟩) ∧ v13 = .pointer none ∧ v14 = .pointer none ∧ v17 = .pointer (some ⟨w2.heap.size + 1, 0, none⟩) ∧ wc = w')
    case atStart => exact ⟨rfl, rfl, rfl, rfl, rfl, rfl⟩
    case round =>
      obtain ⟨rfl, rfl, rfl, rfl, rfl, rfl⟩ := hrel
      go_upto_if 122 with fail
      go_cut [11, 12, 13, 14, 17, 23, 24] from 122 to 212 (fun s11 s12 s13 s14 s17 s23 s24 wd => LT w wd s11 (Nat.gcd N D))
      case first =>
        obtain ⟨bl, hbl⟩ : ∃ b, b = decide ((lP : Int) > 1) := ⟨_, rfl⟩
        go_upto_if 128 with fail
        rw [← hbl]
        have HBL := Aside0.mk hbl
        go_cut [11, 12, 13, 14, 17] from 128 to 142 (fun s11 s12 s13 s14 s17 wd => LS w wd s11 s12 (Nat.gcd N D))
        case first =>
          clear hbl
          cases bl
          · go_wp2_with fail
            go_meet
            obtain ⟨i1, i2, i3, i4, i5⟩ := HI.out
            obtain ⟨⟨j1, j2, j3, j4⟩, hne, ⟨g1, g2, g3, g4⟩, hlt⟩ := HJ2.out
            have hP1 : P < 18446744073709551616 := wl_le_one (by have h1 := HBL.out; have h2 := HLP.out; simp at h1; omega)
            exact ⟨hP, hQ, gP, _, _, P, Q, rfl, rfl, ⟨j1, j2, j3, j4.toNV g4⟩, ⟨i1, by omega, hP1, i4⟩, ⟨g1, g3, j3.ne j1⟩, HF2⟩
          · have HE : Aside0 (Calls Tryz.prog 186 #[.pointer (some ⟨hP, 0, none⟩), .pointer (some ⟨hQ, 0, none⟩), .pointer none, .pointer none, .pointer (some ⟨w2.heap.size, 0, none⟩), .pointer (some ⟨w2.heap.size + 1, 0, none⟩), .bool false] wc fun e w' =>
                ∃ v', e = .returned (.tuple #[.pointer (some ⟨hQ, 0, none⟩), .pointer (some ⟨w2.heap.size + 1, 0, none⟩), .pointer (some ⟨hP, 0, none⟩), .pointer none, .pointer none]) ∧ Iz w' (w2.heap.size + 1) v' ∧ NV wc.heap.size w' v' (lits 18446744073709551616 (P % Q)) ∧ Fr (fun k => k = w2.heap.size ∨ k = w2.heap.size + 1) wc w') := by
              obtain ⟨i1, i2, i3, i4, i5⟩ := HI.out
              obtain ⟨⟨j1, j2, j3, j4⟩, hne, ⟨g1, g2, g3, g4⟩, hlt⟩ := HJ2.out
              obtain ⟨q1, q2⟩ := HQR.out
              exact ⟨euclid _ _ hP hQ gP gQ P Q _ _ wc q1 q2 j1 j2 j3 j4 (by omega) (by omega) (by omega) (by omega) (by omega) (by omega) i5 i2 i4 i3⟩
            go_wp2_with (go_at_call 186; go_must (refine HE.out.mono ?_); rintro e w4 ⟨v4, rfl, h1, h2, h3⟩; have H1 := Aside0.mk h1; have H2 := Aside0.mk h2; have H3 := Aside0.mk h3; clear h1 h2 h3)
            go_meet
            obtain ⟨i1, i2, i3, i4, i5⟩ := HI.out
            obtain ⟨⟨j1, j2, j3, j4⟩, hne, ⟨g1, g2, g3, g4⟩, hlt⟩ := HJ2.out
            obtain ⟨q1, q2⟩ := HQR.out
            obtain ⟨z1, z2, z3⟩ := HSZ.out
            have n1 := j4.ne q1
            have n2 := j4.ne q2
            have n3 := j4.ne j2
            exact ⟨hQ, _, gQ, _, _, Q, P % Q, rfl, rfl, ⟨j2.far H3.out (by omega), H1.out, j4.far H3.out (by omega), H2.out.base_le HF2.out.size⟩,
              ⟨by rw [← i1, Nat.gcd_comm Q, ← Nat.gcd_rec, Nat.gcd_comm], i2, i4, Nat.lt_of_lt_of_le (Nat.mod_lt _ i2) (Nat.le_of_lt i4)⟩, ⟨g2, g4, n3⟩, ⟨HF2.out.call H3.out (fun k hk => Or.inr (by omega))⟩⟩
        case rest =>
          obtain ⟨hA, hB, gA, vA, vB, x, y, rfl, rfl, HS1, HS2, HS3, HS4⟩ := hcut
          obtain ⟨s1, s2, s3, s4⟩ := HS1.out
          obtain ⟨t1, t2, t3, t4⟩ := HS2.out
          obtain ⟨A0, A1, cA, rfl⟩ := s3.cell0 t2 t3
          obtain ⟨AB, cB, rfl⟩ := s4.sl
          have x11 := s1.c1
          have x12 := s2.c1
          clear s1 s2 s3
          rcases Nat.eq_zero_or_pos y with hy | hy
          · subst hy
            have hl0 : (lits 18446744073709551616 0).length = 0 := by rw [lits_zero]; rfl
            rw [hl0] at x12
            clear s4
            go_wp2_with fail
            go_meet
            have hs := HS1.out
            exact ⟨hA, gA, _, rfl, ⟨hs.1, by rw [← t1, Nat.gcd_zero_right]; exact hs.2.2.1⟩, ⟨HS3.out.1, HS3.out.2.1⟩, HS4⟩
          · obtain ⟨gB, hgB, s5⟩ := s4.toNW hy
            obtain ⟨B0, B1, cB', hB'⟩ := s5.cell0 hy t4
            rw [wl_one hy t4] at x12 hB'
            simp only [List.length_cons, List.length_nil, Nat.zero_add] at x12 hB'
            cases hB'
            clear s4 s5 t1 t2 t3 t4
            go_upto_region 24 with fail
            obtain ⟨S, hS, hS0⟩ : ∃ S : World → Prop, S wc.drew ∧ ∀ W', S W' → W'.cell? ⟨hA, 1, none⟩ = some (.slice (some ⟨gA, 0, none⟩) 1 cA) ∧ W'.cell? ⟨hB, 1, none⟩ = some (.slice (some ⟨gB, 0, none⟩) 1 cB) ∧ W'.cell? ⟨gA, 0, none⟩ = some (.int .u64 x) ∧ W'.cell? ⟨gB, 0, none⟩ = some (.int .u64 y) := ⟨_, ⟨by first | exact x11 | (rw [wl_one (HS2.out.2.1) (HS2.out.2.2.1)] at x11; exact x11), x12, A0, B0⟩, fun _ h => h⟩
            refine wp_region_till S 13 (by kernel_rfl) ?_
            refine till_free (i := 0) (some 149) (v := ?_) rfl rfl (by kernel_rfl) (by kernel_rfl) (by kernel_rfl) (by decide) (fun _ _ _ h => h) (Or.inl ⟨by rfl, ?_⟩) hS ?_
            rotate_left 1
            · ((intro W; go_simp); all_goals (with_reducible rfl))
            (try simp only [Act.put, List.setIfInBounds_toArray, List.set_cons_zero, List.set_cons_succ])
            refine till_free (i := 1) (some 150) (v := ?_) rfl rfl (by kernel_rfl) (by kernel_rfl) (by kernel_rfl) (by decide) (fun _ _ _ h => h) (Or.inl ⟨by rfl, ?_⟩) hS ?_
            rotate_left 1
            · ((intro W; go_simp); all_goals (with_reducible rfl))
            (try simp only [Act.put, List.setIfInBounds_toArray, List.set_cons_zero, List.set_cons_succ])
            refine till_free (i := 2) (some 151) (v := ?_) rfl rfl (by kernel_rfl) (by kernel_rfl) (by kernel_rfl) (by decide) (fun _ _ _ h => h) (Or.inl ⟨by rfl, ?_⟩) hS ?_
            rotate_left 1
            · ((intro W; go_simp); all_goals (with_reducible rfl))
            (try simp only [Act.put, List.setIfInBounds_toArray, List.set_cons_zero, List.set_cons_succ])
            refine till_free (i := 6) (some 155) (v := ?_) rfl rfl (by kernel_rfl) (by kernel_rfl) (by kernel_rfl) (by decide) (fun _ _ _ h => h) (Or.inl ⟨by rfl, ?_⟩) hS ?_
            rotate_left 1
            · ((intro W; go_simp); all_goals (with_reducible rfl))
            (try simp only [Act.put, List.setIfInBounds_toArray, List.set_cons_zero, List.set_cons_succ])
            refine till_free (i := 7) (some 156) (v := ?_) rfl rfl (by kernel_rfl) (by kernel_rfl) (by kernel_rfl) (by decide) (fun _ _ _ h => h) (Or.inl ⟨by rfl, ?_⟩) hS ?_
            rotate_left 1
            · ((intro W; go_simp); all_goals (with_reducible rfl))
            (try simp only [Act.put, List.setIfInBounds_toArray, List.set_cons_zero, List.set_cons_succ])
            refine till_free (i := 8) (some 157) (v := ?_) rfl rfl (by kernel_rfl) (by kernel_rfl) (by kernel_rfl) (by decide) (fun _ _ _ h => h) (Or.inl ⟨by rfl, ?_⟩) hS ?_
            rotate_left 1
            · ((intro W; go_simp); all_goals (with_reducible rfl))
            (try simp only [Act.put, List.setIfInBounds_toArray, List.set_cons_zero, List.set_cons_succ])
            refine till_take (i := 3) (some 152) (v := ?_) rfl rfl (by kernel_rfl) (by kernel_rfl) (by kernel_rfl) (by kernel_rfl) (by kernel_rfl) (fun _ _ _ h => h) (Or.inl ⟨by rfl, ?_⟩) hS ?_
            rotate_left 1
            · ((intro W hW; have hW2 := hS0 W hW; go_simp); all_goals (with_reducible rfl))
            (try simp only [Act.put, List.setIfInBounds_toArray, List.set_cons_zero, List.set_cons_succ])
            refine till_free (i := 4) (some 153) (v := ?_) rfl rfl (by kernel_rfl) (by kernel_rfl) (by kernel_rfl) (by decide) (fun _ _ _ h => h) (Or.inl ⟨by rfl, ?_⟩) hS ?_
            rotate_left 1
            · ((intro W; go_simp); all_goals (with_reducible rfl))
            (try simp only [Act.put, List.setIfInBounds_toArray, List.set_cons_zero, List.set_cons_succ])
            refine till_take (i := 5) (some 154) (v := ?_) rfl rfl (by kernel_rfl) (by kernel_rfl) (by kernel_rfl) (by kernel_rfl) (by kernel_rfl) (fun _ _ _ h => h) (Or.inl ⟨by rfl, ?_⟩) hS ?_
            rotate_left 1
            · ((intro W hW; have hW2 := hS0 W hW; go_simp); all_goals (with_reducible rfl))
            (try simp only [Act.put, List.setIfInBounds_toArray, List.set_cons_zero, List.set_cons_succ])
            refine till_free (i := 12) (some 23) (v := ?_) rfl rfl (by kernel_rfl) (by kernel_rfl) (by kernel_rfl) (by decide) (fun _ _ _ h => h) (Or.inl ⟨by rfl, ?_⟩) hS ?_
            rotate_left 1
            · ((intro W; go_simp); all_goals (with_reducible rfl))
            (try simp only [Act.put, List.setIfInBounds_toArray, List.set_cons_zero, List.set_cons_succ])
            refine till_take (i := 9) (some 158) (v := ?_) rfl rfl (by kernel_rfl) (by kernel_rfl) (by kernel_rfl) (by kernel_rfl) (by kernel_rfl) (fun _ _ _ h => h) (Or.inl ⟨by rfl, ?_⟩) hS ?_
            rotate_left 1
            · ((intro W hW; have hW2 := hS0 W hW; go_simp); all_goals (with_reducible rfl))
            (try simp only [Act.put, List.setIfInBounds_toArray, List.set_cons_zero, List.set_cons_succ])
            refine till_free (i := 10) (some 159) (v := ?_) rfl rfl (by kernel_rfl) (by kernel_rfl) (by kernel_rfl) (by decide) (fun _ _ _ h => h) (Or.inl ⟨by rfl, ?_⟩) hS ?_
            rotate_left 1
            · ((intro W; go_simp); all_goals (with_reducible rfl))
            (try simp only [Act.put, List.setIfInBounds_toArray, List.set_cons_zero, List.set_cons_succ])
            refine till_take (i := 11) (some 160) (v := ?_) rfl rfl (by kernel_rfl) (by kernel_rfl) (by kernel_rfl) (by kernel_rfl) (by kernel_rfl) (fun _ _ _ h => h) (Or.inl ⟨by rfl, ?_⟩) hS ?_
            rotate_left 1
            · ((intro W hW; have hW2 := hS0 W hW; go_simp); all_goals (with_reducible rfl))
            (try simp only [Act.put, List.setIfInBounds_toArray, List.set_cons_zero, List.set_cons_succ])
            refine wpTill_call (c := 13) (by kernel_rfl) (by kernel_rfl) (AllReady.cons rfl (fun K hK => ?_) AllReady.nil)
            go_simp
            refine hK _ _ ?_
            clear hK K
            refine wpAny_done (by kernel_rfl) ?_ _
            clear hS hS0 S
            go_wp2_with fail
            go_loopg [23, 24] y (fun kq v23 v24 w' => ∃ p r : Nat, v23 = .int .u64 p ∧ v24 = .int .u64 r ∧ Aside0 (Nat.gcd p r = Nat.gcd N D ∧ 0 < p ∧ p < 18446744073709551616 ∧ r < 18446744073709551616 ∧ r = kq) ∧ Aside0 (Fr (fun _ => False) wc w'))
            case atStart =>
              have h := HS2.out
              exact ⟨x, y, rfl, rfl, ⟨h.1, h.2.1, h.2.2.1, h.2.2.2, rfl⟩, ⟨(Fr.refl _ _).drew⟩⟩
            case round =>
              obtain ⟨p, r, rfl, rfl, hI, hF⟩ := hrel
              have hf := hF.out
              have k1 := HS1.out.1.far hf (fun h => h)
              have k3 := HS1.out.2.2.1.far hf (fun h => h)
              obtain ⟨hk0, hk1⟩ : r = gk ∧ Aside0 (Nat.gcd p r = Nat.gcd N D ∧ 0 < p ∧ p < 18446744073709551616 ∧ r < 18446744073709551616) := ⟨hI.out.2.2.2.2, ⟨hI.out.1, hI.out.2.1, hI.out.2.2.1, hI.out.2.2.2.1⟩⟩
              subst hk0
              clear hI
              rcases Nat.eq_zero_or_pos r with hr | hr
              · subst hr
                obtain ⟨m0, m1, -⟩ := k3.cell0 HS2.out.2.1 HS2.out.2.2.1
                have m2 := k1.c1
                have m3 := k1.lt
                have HK := Aside0.mk (And.intro k1 k3)
                clear k1 k3 hf
                go_wp2_with fail
                go_meet
                refine ⟨hA, gA, _, rfl, ⟨HK.out.1.far (fr_put1 (S := fun k => k = gA) (Fr.refl _ _) rfl 0 (.int .u64 p)) HS3.out.2.2, ?_⟩, ⟨HS3.out.1, HS3.out.2.1⟩, ⟨fr_put1' (HS4.out.trans hF.out) HS3.out.2.1 0 (.int .u64 p)⟩⟩
                have h := HK.out.2.put0 HS2.out.2.1 HS2.out.2.2.1 p hk1.out.2.1 hk1.out.2.2.1
                rw [Nat.gcd_zero_right] at hk1
                rw [← hk1.out.1]
                exact h
              · have hrb : ¬ ((r : Int) = 0) := Int.natCast_ne_zero.2 (Nat.pos_iff_ne_zero.1 hr)
                have hrb2 : ((r : Int) == 0) = false := beq_false_of_ne hrb
                have HR := Aside0.mk hr
                clear k1 k3 hf hr
                go_wp2_with fail
                go_region
                go_wp2_with fail
                go_roundg (p % r)
                case measure => exact Nat.mod_lt _ HR.out
                case rel => exact ⟨r, p % r, rfl, by simp, ⟨by rw [Nat.gcd_comm r, ← Nat.gcd_rec, Nat.gcd_comm]; exact hk1.out.1, HR.out, hk1.out.2.2.2, Nat.lt_trans (Nat.mod_lt _ HR.out) hk1.out.2.2.2, rfl⟩, ⟨hF.out.drew⟩⟩
      case rest =>
        obtain ⟨hA, gA, vA, rfl, T1, T2, T3⟩ := hcut
        have a0 := (HX.out.far T3.out (fun h => h)).cells.1
        have HS : Aside0 (Calls Tryz.prog 189 #[.pointer (some ⟨z, 0, none⟩), .pointer (some ⟨hA, 0, none⟩)] wc fun e w' => ∃ v' g', wc.heap.size ≤ g' ∧ e = .returned (.pointer (some ⟨z, 0, none⟩)) ∧ Iz w' z v' ∧ NW w' g' v' (Nat.gcd N D) ∧ Fr (fun k => k = z) wc w') := by
          have h := HC.out
          have hz := HL.out.1
          have g0 : 0 < Nat.gcd N D := Nat.gcd_pos_of_pos_left D h.1
          have g1 : Nat.gcd N D < 18446744073709551616 := Nat.lt_of_le_of_lt (Nat.le_min.2 ⟨Nat.gcd_le_left D h.1, Nat.gcd_le_right N h.2.1⟩) h.2.2.2.2.1
          exact ⟨int_set z gA hA 0 _ vA wc (HZ.out.far T3.out (fun h => h)) T1.out.1.ia T1.out.2 (by have := T2.out; omega) (by have := T2.out; omega) g0 (by rw [wl_one g0 g1]; simp)⟩
        go_wp2_with (go_at_call 189; go_must (refine HS.out.mono ?_); rintro e w5 ⟨v5, g5, hg5, rfl, h1, h2, h3⟩; have H1 := Aside0.mk h1; have H2 := Aside0.mk h2; have H3 := Aside0.mk h3; clear h1 h2 h3)
        go_ret
        exact ⟨v5, g5, by have := T3.out.size; omega, rfl, H1.out, H2.out, (T3.out.mono (fun _ h => h.elim)).trans H3.out⟩
end Go.Proofs.YtgpoplfgngiilaaGreatDoor
