/- FnLiteralHexFloat, behind its card (X5 X6 K8 G13). -/
import Derived.Test.YtgpoplfgngiilaaGreatDoorR25
import Derived.Test.YtgpoplfgngiilaaGreatDoorR23
import Derived.Test.YtgpoplfgngiilaaGreatDoorR22
set_option linter.unusedVariables false
set_option linter.unusedSimpArgs false
namespace Go.Proofs.YtgpoplfgngiilaaGreatDoor
set_option linter.unusedVariables false
set_option linter.unusedSimpArgs false
open Go.RowKit Go.Proofs.YtgpoplfgngiilaaGreatDoorW.PrintWords Go.Proofs.YtgpoplfgngiilaaGreatDoorW.PrintLast Go.Proofs.YtgpoplfgngiilaaGreatDoorW.PrintMore

/-- v are the words of n. -/
def WN (w : World) (v : Value) (n : Nat) : Prop := ∃ A c, v = .slice A (lits 18446744073709551616 n).length c ∧ (lits 18446744073709551616 n).length ≤ c ∧ Kd.C (Kd.int .u64) w A (lits 18446744073709551616 n).length (lits 18446744073709551616 n)
theorem WN.below {w w1 : World} {v : Value} {n : Nat} (h : WN w v n) (hb : Below w.heap.size w w1) : WN w1 v n := by
  obtain ⟨A, c, h1, h2, h3⟩ := h
  exact ⟨A, c, h1, h2, Kd.C_below h3 hb⟩
theorem WN.slice' {w : World} {v : Value} {n : Nat} (h : WN w v n) : ∃ A l c, v = .slice A l c := by
  obtain ⟨A, c, h1, -⟩ := h
  exact ⟨A, _, c, h1⟩
def Few (n : Nat) : Prop := (lits 18446744073709551616 n).length ≤ 1000
theorem Few.tiny {n : Nat} (h : Few n) : Tiny n := by
  unfold Few at h
  have hR := InR_lits 18446744073709551616 (by decide) n
  have h1 := quadsL_val (lits 18446744073709551616 n) hR
  have h2 := lits_length_le 65536 (by decide) (quadsL (lits 18446744073709551616 n)) (quadsL_R _)
  rw [h1, valL_lits 18446744073709551616 (by decide), quadsL_length] at h2
  unfold Tiny
  omega

theorem of_c {w : World} {u : Value} {n : Nat} (hu : WN w u n) (hn : Few n) : Calls Tryz.prog 15 #[u] w (ResN n w) := by
  obtain ⟨A, c, rfl, h1, h2⟩ := hu
  unfold Few at hn
  have hk := of_f (lits 18446744073709551616 n) (InR_lits 18446744073709551616 (by decide) n) (by omega) (11 * (lits 18446744073709551616 n).length + 11) (by omega)
  rw [valL_lits 18446744073709551616 (by decide)] at hk
  refine (Pr.spec_Of.calls _ A c _ _ w h2 h1 hk).mono ?_
  rintro e w' ⟨v, rfl, hV, hB⟩
  exact ⟨v, rfl, Sl.ofV hV, hB⟩
theorem hasWords_true (n : Nat) (hn : Few n) : ∃ k, Pr.spec_HasWords.f k (lits 18446744073709551616 n) (lits 65536 n) = some true := by
  have ht := hn.tiny
  unfold Tiny at ht
  unfold Few at hn
  obtain ⟨b, h1, h2⟩ := hasWords_f (lits 18446744073709551616 n) n (by omega) (by omega) ((lits 65536 n).length + (lits 18446744073709551616 n).length + 1) (by omega)
  rw [h2.2 rfl] at h1
  exact ⟨_, h1⟩
theorem isNumber_c {w : World} {u v : Value} {n : Nat} (hu : WN w u n) (hv : SN w v n) (hn : Few n) : Calls Tryz.prog 35 #[.agg #[.bool false, u], .bool false, v] w fun e w' => e = .returned (.bool true) ∧ Below w.heap.size w w' := by
  obtain ⟨A, c, rfl, h1, h2⟩ := hu
  obtain ⟨A', c', rfl, h3, h4⟩ := hv
  obtain ⟨k, hk⟩ := hasWords_true n hn
  exact isNumber_calls k A c _ A' c' _ true w h2 h1 h4 h3 hk
theorem hasWords_c {w : World} {u v : Value} {n : Nat} (hu : WN w u n) (hv : SN w v n) (hn : Few n) : Calls Tryz.prog 55 #[u, v] w fun e w' => e = .returned (.bool true) ∧ Below w.heap.size w w' := by
  obtain ⟨A, c, rfl, h1, h2⟩ := hu
  obtain ⟨A', c', rfl, h3, h4⟩ := hv
  obtain ⟨k, hk⟩ := hasWords_true n hn
  refine (Pr.spec_HasWords.calls k A c _ A' c' _ true w h2 h1 h4 h3 hk).mono ?_
  rintro e w' ⟨rfl, hB⟩
  exact ⟨rfl, by first | exact hB | exact drawn_below hB⟩

/-- A fraction in a block of its own. -/
def FrB (W9 : World) (n d g : Nat) (wc : World) : Prop := W9.heap.size ≤ g ∧ ∃ A la ca B lb cb, wc.heap[g]? = some (.cells #[.bool false, .slice A la ca, .slice B lb cb] 31 (0, 0)) ∧ SN wc (.slice A la ca) n ∧ SN wc (.slice B lb cb) d ∧ Below W9.heap.size W9 wc
theorem keep2 {W0 W1 : World} {g N : Nat} {x0 x1 : Value} (hb : Below N W0 W1) (hg : g < N) (d0 : W0.cell? ⟨g, 0, none⟩ = some x0) (d1 : W0.cell? ⟨g, 1, none⟩ = some x1) :
    W1.cell? ⟨g, 0, none⟩ = some x0 ∧ W1.cell? ⟨g, 1, none⟩ = some x1 ∧ Below N W0 W1 := ⟨(hb.cell (p := ⟨g, 0, none⟩) hg).trans d0, (hb.cell (p := ⟨g, 1, none⟩) hg).trans d1, hb⟩
theorem put3_heap {w : World} {g : Nat} {b : Bool} {A B : Option Addr} {la ca lb cb : Nat} (h : w.heap[g]? = some (.cells #[.bool b, .slice A la ca, .slice B lb cb] 31 (0, 0))) (x y z : Value) :
    (((w.setCell ⟨g, 0, none⟩ x).setCell ⟨g, 1, none⟩ y).setCell ⟨g, 2, none⟩ z).heap[g]? = some (.cells #[x, y, z] 31 (0, 0)) := blk_put (blk_put (blk_put h 0 _ rfl) 1 _ rfl) 2 _ rfl
theorem SN.put3' {w : World} {v : Value} {n : Nat} (h : SN w v n) {g : Nat} {b : Bool} {A B : Option Addr} {la ca lb cb : Nat} (h0 : w.heap[g]? = some (.cells #[.bool b, .slice A la ca, .slice B lb cb] 31 (0, 0))) (x y z : Value) :
    SN (((w.setCell ⟨g, 0, none⟩ x).setCell ⟨g, 1, none⟩ y).setCell ⟨g, 2, none⟩ z) v n := h.put3 (blk_cell h0 0) (blk_cell h0 1) (blk_cell h0 2) x y z

theorem fr_put3 {S : Nat → Prop} {w W : World} {g : Nat} (h : Fr S w W) (hg : S g) (x y z : Value) : Fr S w (((W.setCell ⟨g, 0, none⟩ x).setCell ⟨g, 1, none⟩ y).setCell ⟨g, 2, none⟩ z) :=
  ((h.setCell (p := ⟨g, 0, none⟩) (Or.inl hg) x).setCell (p := ⟨g, 1, none⟩) (Or.inl hg) y).setCell (p := ⟨g, 2, none⟩) (Or.inl hg) z
theorem keep3F {S : Nat → Prop} {W W1 : World} {g : Nat} {x0 x1 x2 : Value} (hf : Fr S W W1) (hg : ¬ S g) (d0 : W.cell? ⟨g, 0, none⟩ = some x0) (d1 : W.cell? ⟨g, 1, none⟩ = some x1) (d2 : W.cell? ⟨g, 2, none⟩ = some x2) :
    W1.cell? ⟨g, 0, none⟩ = some x0 ∧ W1.cell? ⟨g, 1, none⟩ = some x1 ∧ W1.cell? ⟨g, 2, none⟩ = some x2 ∧ Fr S W W1 := ⟨hf.cellv d0 hg, hf.cellv d1 hg, hf.cellv d2 hg, hf⟩

set_option maxHeartbeats 2000000 in
set_option maxRecDepth 1000000 in
/-- spec.fraction of the words of a fraction in lowest terms. -/
theorem fraction_c {w : World} {u v : Value} {n d : Nat} (hu : WN w u n) (hv : WN w v d) (hn : Few n) (hd : Few d) (hd0 : 0 < d) (hg : Nat.gcd n d = 1) :
    Calls Tryz.prog 52 #[.agg #[.bool false, u], v] w fun e w' => ∃ r, e = .returned (.tuple #[r, .bool true]) ∧ SR w' r n d ∧ Below w.heap.size w w' := by
  have HU := Aside0.mk hu
  have HV := Aside0.mk hv
  obtain ⟨A, la, ca, rfl⟩ := hu.slice'
  obtain ⟨B, lb, cb, rfl⟩ := hv.slice'
  have HO1 := Aside0.mk (fun W (h : WN W (.slice A la ca) n) => of_c h hn)
  have HO2 := Aside0.mk (fun W (h : WN W (.slice B lb cb) d) => of_c h hd)
  have HIN := Aside0.mk (fun W x (h : WN W (.slice A la ca) n) (h' : SN W x n) => isNumber_c h h' hn)
  have HHW := Aside0.mk (fun W x (h : WN W (.slice B lb cb) d) (h' : SN W x d) => hasWords_c h h' hd)
  have HGC := Aside0.mk (fun W x y (h : SN W x n) (h' : SN W y d) => gcd_c h h' hn.tiny hd.tiny)
  rw [hg] at HGC
  have HSM := Aside0.mk (fun W => small_c W 1 (by decide))
  have HCM := Aside0.mk (fun W x y (h : SN W x 1) (h' : SN W y 1) => cmp_c h h' (Nat.le_trans (litsM_len (n := 1) 1 (by decide)) (by decide)))
  rw [show sg 1 1 = 0 by decide] at HCM
  have hld : (lits 65536 d).length ≠ 0 := fun h => by have := (lits_nil_iff 65536 d (by decide)).1 h; omega
  have HLD := Aside0.mk hld
  unfold ResN at *
  obtain ⟨W9, hW9⟩ : ∃ W9, W9 = (w.alloc (.cells #[.bool false, .slice A la ca] 24)).alloc (.cells #[.bool false, .slice none 0 0, .slice none 0 0] 31) := ⟨_, rfl⟩
  have a0 : W9.cell? ⟨w.heap.size, 0, none⟩ = some (.bool false) := by rw [hW9]; go_simp
  have a1 : W9.cell? ⟨w.heap.size, 1, none⟩ = some (.slice A la ca) := by rw [hW9]; go_simp
  have hs9 : W9.heap.size = w.heap.size + 2 := by rw [hW9]; simp
  have hbw : Below w.heap.size w W9 := by rw [hW9]; exact ((Below.refl _ _).alloc (Nat.le_refl _) _).alloc (by simp) _
  have hb9 := Below.refl W9.heap.size W9
  have hbz : w.heap.size < W9.heap.size := by omega
  have HU := Aside0.mk (HU.out.below hbw)
  have HV := Aside0.mk (HV.out.below hbw)
  have HBW := Aside0.mk (And.intro hbw hs9)
  have HM := Aside0.mk (fun W (h : Below W9.heap.size W9 W) => blk3 (w := w.alloc (.cells #[.bool false, .slice A la ca] 24)) (W := W) (g := w.heap.size + 1) (x := .bool false) (y := .slice none 0 0) (z := .slice none 0 0) (t := 31) (by rw [← hW9]; exact h) (by simp))
  have HW9 := Aside0.mk hW9
  clear hW9 hs9 hbw hu hv hn hd hd0 hg hld
  go_enter Tryz.func52, Tryz.ntmps52
  go_upto_region 1 with fail
  rw [← HW9.out]
  go_cut [6] (fun s6 wc => ∃ g : Nat, s6 = .pointer (some ⟨g, 0, none⟩) ∧ FrB W9 n d g wc)
  case first =>
    go_region_held3 (fun w' => w'.cell? ⟨w.heap.size, 0, none⟩ = some (.bool false) ∧ w'.cell? ⟨w.heap.size, 1, none⟩ = some (.slice A la ca) ∧ Below W9.heap.size W9 w')
      ((exact keep2 (by repeat (first | assumption | apply Below.drew | apply pw_below_drewN | (refine Below.alloc ?_ (by first | exact Nat.le_refl _ | (simp; done) | omega | (simp; omega)) _) | (refine Below.setCell ?_ (by first | exact Nat.le_refl _ | (simp; done) | omega | (simp; omega)) _))) hbz a0 a1))
      (first
        | (go_at_call 15; have hq11 := hb11; clear hq11; refine (HO2.out _ (HV.out.below (by repeat (first | assumption | apply Below.drew | apply pw_below_drewN | (refine Below.alloc ?_ (by first | exact Nat.le_refl _ | (simp; done) | omega | (simp; omega)) _) | (refine Below.setCell ?_ (by first | exact Nat.le_refl _ | (simp; done) | omega | (simp; omega)) _))))).mono ?_; rintro e w2 ⟨v2, rfl, h2, hB2⟩; obtain ⟨A2, l2, c2, rfl⟩ := h2.slice'; have H2 := Aside0.mk h2; have hs2 := hB2.size; (try simp only [World.size_alloc, World.size_drew] at hs2); have hb92 : Below W9.heap.size W9 w2 := below_step (by repeat (first | assumption | apply Below.drew | apply pw_below_drewN | (refine Below.alloc ?_ (by first | exact Nat.le_refl _ | (simp; done) | omega | (simp; omega)) _) | (refine Below.setCell ?_ (by first | exact Nat.le_refl _ | (simp; done) | omega | (simp; omega)) _))) hB2; have hb12 : Below w1.heap.size w1 w2 := below_step (by repeat (first | assumption | apply Below.drew | apply pw_below_drewN | (refine Below.alloc ?_ (by first | exact Nat.le_refl _ | (simp; done) | omega | (simp; omega)) _) | (refine Below.setCell ?_ (by first | exact Nat.le_refl _ | (simp; done) | omega | (simp; omega)) _))) hB2; have hb22 := Below.refl w2.heap.size w2; obtain ⟨qa2, qb2⟩ := bcell hB2; (try simp only [World.size_alloc, World.size_drew] at qa2 qb2); clear h2)
        | (go_at_call 15; refine (HO1.out _ (HU.out.below (by repeat (first | assumption | apply Below.drew | apply pw_below_drewN | (refine Below.alloc ?_ (by first | exact Nat.le_refl _ | (simp; done) | omega | (simp; omega)) _) | (refine Below.setCell ?_ (by first | exact Nat.le_refl _ | (simp; done) | omega | (simp; omega)) _))))).mono ?_; rintro e w1 ⟨v1, rfl, h1, hB1⟩; obtain ⟨A1, l1, c1, rfl⟩ := h1.slice'; have H1 := Aside0.mk h1; have hs1 := hB1.size; (try simp only [World.size_alloc, World.size_drew] at hs1); have hb91 : Below W9.heap.size W9 w1 := below_step (by repeat (first | assumption | apply Below.drew | apply pw_below_drewN | (refine Below.alloc ?_ (by first | exact Nat.le_refl _ | (simp; done) | omega | (simp; omega)) _) | (refine Below.setCell ?_ (by first | exact Nat.le_refl _ | (simp; done) | omega | (simp; omega)) _))) hB1; have hb11 := Below.refl w1.heap.size w1; obtain ⟨qa1, qb1⟩ := bcell hB1; (try simp only [World.size_alloc, World.size_drew] at qa1 qb1); have ht1 := hb91.size; (try have hu1 : W9.heap.size < w1.heap.size := by omega); clear h1))
    · go_wp2_with fail
      go_meet
      exact ⟨w2.heap.size, rfl, hb92.size, A1, l1, c1, A2, l2, c2, heap_alloc_new _ _, (H1.out.below hb12).below ((Below.refl w2.heap.size _).alloc (Nat.le_refl _) _), H2.out.below ((Below.refl w2.heap.size _).alloc (Nat.le_refl _) _), hb92.alloc hb92.size _⟩
    · go_wp2_with fail
      go_meet
      have hh := (hB2.block w1.heap.size (by simp)).trans (heap_alloc_new _ _)
      exact ⟨w1.heap.size, rfl, ht1, A1, l1, c1, A2, l2, c2, put3_heap hh _ _ _, (H1.out.below hb12).put3' hh _ _ _, H2.out.put3' hh _ _ _, below_put3 hb92 ht1 _ _ _⟩
    · go_wp2_with fail
      go_meet
      have hh := (hB2.block W9.heap.size hu1).trans ((hB1.block W9.heap.size (by simp)).trans (heap_alloc_new _ _))
      exact ⟨W9.heap.size, rfl, Nat.le_refl _, A1, l1, c1, A2, l2, c2, put3_heap hh _ _ _, (H1.out.below hb12).put3' hh _ _ _, H2.out.put3' hh _ _ _, below_put3 hb92 (Nat.le_refl _) _ _ _⟩
  case rest =>
    obtain ⟨g, rfl, hgb, A1, l1, c1, A2, l2, c2, hh, hn, hd, hbc⟩ := hcut
    have d0 : wc.cell? ⟨g, 0, none⟩ = some (.bool false) := blk_cell hh 0
    have d1 : wc.cell? ⟨g, 1, none⟩ = some (.slice A1 l1 c1) := blk_cell hh 1
    have d2 : wc.cell? ⟨g, 2, none⟩ = some (.slice A2 l2 c2) := blk_cell hh 2
    have e0 := (hbc.cell (p := ⟨w.heap.size, 0, none⟩) hbz).trans a0
    have e1 := (hbc.cell (p := ⟨w.heap.size, 1, none⟩) hbz).trans a1
    have HN := Aside0.mk hn
    have HD := Aside0.mk hd
    have HB := Aside0.mk hbc
    have HH := Aside0.mk hh
    have hl2 : l2 = (lits 65536 d).length := by
      obtain ⟨_, _, h, -⟩ := hd
      cases h
      rfl
    have hl2b : ((l2 : Int) == 0) = false := beq_false_of_ne (by have := HLD.out; omega)
    have HU2 := Aside0.mk (HU.out.below hbc)
    have HV2 := Aside0.mk (HV.out.below hbc)
    have hz : g < wc.heap.size := blk_lt hh
    clear hn hd hbc hh hl2
    go_wp2_with (first | (go_at_call 35; go_must (refine (HIN.out _ _ HU2.out HN.out).mono ?_); rintro e w1 ⟨rfl, h1⟩; have H1 := Aside0.mk h1; have x0 := (h1.cell (p := ⟨g, 0, none⟩) hz).trans d0; have x1 := (h1.cell (p := ⟨g, 1, none⟩) hz).trans d1; have x2 := (h1.cell (p := ⟨g, 2, none⟩) hz).trans d2; clear h1) | (go_at_call 55; go_must (refine (HHW.out _ _ (HV2.out.below H1.out) (HD.out.below H1.out)).mono ?_); rintro e w2 ⟨rfl, h2⟩; have H2 := Aside0.mk h2; have y0 := (h2.cell (p := ⟨g, 0, none⟩) (Nat.lt_of_lt_of_le hz H1.out.size)).trans x0; have y1 := (h2.cell (p := ⟨g, 1, none⟩) (Nat.lt_of_lt_of_le hz H1.out.size)).trans x1; have y2 := (h2.cell (p := ⟨g, 2, none⟩) (Nat.lt_of_lt_of_le hz H1.out.size)).trans x2; clear h2 x0 x1 x2))
    have hb22 := Below.refl w2.heap.size w2
    have hf22 := Fr.refl (fun k => k = w.heap.size + 1) w2
    have hgn : ¬ g = w.heap.size + 1 := by have := HBW.out.2; omega
    have HB2 := Aside0.mk (below_step (below_step HB.out H1.out) H2.out)
    go_region_held3 (fun w' => w'.cell? ⟨g, 0, none⟩ = some (.bool false) ∧ w'.cell? ⟨g, 1, none⟩ = some (.slice A1 l1 c1) ∧ w'.cell? ⟨g, 2, none⟩ = some (.slice A2 l2 c2) ∧ Fr (fun k => k = w.heap.size + 1) w2 w')
      ((first | exact keep3F (S := fun k => k = w.heap.size + 1) (fr_put3 hf25 rfl _ _ _) hgn y0 y1 y2 | exact keep3F (S := fun k => k = w.heap.size + 1) (by repeat (first | assumption | apply Fr.drew | apply Fr.drewN)) hgn y0 y1 y2))
      (first
        | (go_at_call 53; refine (HGC.out _ _ _ (((HN.out.below H1.out).below H2.out).below (by repeat (first | assumption | apply Below.drew | apply pw_below_drewN | (refine Below.alloc ?_ (by first | exact Nat.le_refl _ | (simp; done) | omega | (simp; omega)) _) | (refine Below.setCell ?_ (by first | exact Nat.le_refl _ | (simp; done) | omega | (simp; omega)) _)))) (((HD.out.below H1.out).below H2.out).below (by repeat (first | assumption | apply Below.drew | apply pw_below_drewN | (refine Below.alloc ?_ (by first | exact Nat.le_refl _ | (simp; done) | omega | (simp; omega)) _) | (refine Below.setCell ?_ (by first | exact Nat.le_refl _ | (simp; done) | omega | (simp; omega)) _))))).mono ?_; rintro e w3 ⟨v3, rfl, h3, hB3⟩; obtain ⟨A3, l3, c3, rfl⟩ := h3.slice'; have H3 := Aside0.mk h3; have hb23 : Below w2.heap.size w2 w3 := below_step (by repeat (first | assumption | apply Below.drew | apply pw_below_drewN | (refine Below.alloc ?_ (by first | exact Nat.le_refl _ | (simp; done) | omega | (simp; omega)) _) | (refine Below.setCell ?_ (by first | exact Nat.le_refl _ | (simp; done) | omega | (simp; omega)) _))) hB3; have hf23 := Fr.of_below (S := fun k => k = w.heap.size + 1) hb23; have hb33 := Below.refl w3.heap.size w3; clear h3)
        | (go_at_call 28; refine (HSM.out _).mono ?_; rintro e w4 ⟨v4, rfl, h4, hB4⟩; obtain ⟨A4, l4, c4, rfl⟩ := h4.slice'; have H4 := Aside0.mk h4; have hb24 : Below w2.heap.size w2 w4 := below_step (by repeat (first | assumption | apply Below.drew | apply pw_below_drewN | (refine Below.alloc ?_ (by first | exact Nat.le_refl _ | (simp; done) | omega | (simp; omega)) _) | (refine Below.setCell ?_ (by first | exact Nat.le_refl _ | (simp; done) | omega | (simp; omega)) _))) hB4; have hf24 := Fr.of_below (S := fun k => k = w.heap.size + 1) hb24; have hb34 : Below w3.heap.size w3 w4 := below_step (by repeat (first | assumption | apply Below.drew | apply pw_below_drewN | (refine Below.alloc ?_ (by first | exact Nat.le_refl _ | (simp; done) | omega | (simp; omega)) _) | (refine Below.setCell ?_ (by first | exact Nat.le_refl _ | (simp; done) | omega | (simp; omega)) _))) hB4; have hb44 := Below.refl w4.heap.size w4; clear h4)
        | (go_at_call 37; refine (HCM.out _ _ _ (H3.out.below (by repeat (first | assumption | apply Below.drew | apply pw_below_drewN | (refine Below.alloc ?_ (by first | exact Nat.le_refl _ | (simp; done) | omega | (simp; omega)) _) | (refine Below.setCell ?_ (by first | exact Nat.le_refl _ | (simp; done) | omega | (simp; omega)) _)))) (H4.out.below (by repeat (first | assumption | apply Below.drew | apply pw_below_drewN | (refine Below.alloc ?_ (by first | exact Nat.le_refl _ | (simp; done) | omega | (simp; omega)) _) | (refine Below.setCell ?_ (by first | exact Nat.le_refl _ | (simp; done) | omega | (simp; omega)) _))))).mono ?_; rintro e w5 ⟨rfl, hB5⟩; have hb25 : Below w2.heap.size w2 w5 := below_step (by repeat (first | assumption | apply Below.drew | apply pw_below_drewN | (refine Below.alloc ?_ (by first | exact Nat.le_refl _ | (simp; done) | omega | (simp; omega)) _) | (refine Below.setCell ?_ (by first | exact Nat.le_refl _ | (simp; done) | omega | (simp; omega)) _))) hB5; have hf25 := Fr.of_below (S := fun k => k = w.heap.size + 1) hb25; have HB5 := Aside0.mk (below_step HB2.out hb25); obtain ⟨m0, m1, m2, n0, n1, n2⟩ := HM.out w5 HB5.out))
    go_wp2_with fail
    refine bodyPost_ret (v := .tuple #[.agg #[.bool false, .slice A1 l1 c1, .slice A2 l2 c2], .bool true]) (by simp [results, Tryz.results52, go_sem, m0, m1, m2]) rfl ?_
    exact ⟨_, rfl, ⟨_, _, rfl, (((HN.out.below H1.out).below H2.out).below hb25).put3 m0 m1 m2 _ _ _, (((HD.out.below H1.out).below H2.out).below hb25).put3 m0 m1 m2 _ _ _⟩, below_put3 (HBW.out.1.trans (HB5.out.mono HBW.out.1.size)) (by omega) _ _ _⟩
end Go.Proofs.YtgpoplfgngiilaaGreatDoor
namespace Go.Proofs.YtgpoplfgngiilaaGreatDoor
set_option linter.unusedVariables false
set_option linter.unusedSimpArgs false
open Go.RowKit Go.Proofs.YtgpoplfgngiilaaGreatDoorW.PrintWords Go.Proofs.YtgpoplfgngiilaaGreatDoorW.PrintLast Go.Proofs.YtgpoplfgngiilaaGreatDoorW.PrintMore

/-- What told hands back of a fraction that is not below 0. -/
def FlV (u v : Value) : Value := .agg #[.int .i64 4, .bool false, .string ⟨#[]⟩, .bool false, u, v, .bool false, .slice none 0 0, .slice none 0 0]

theorem rest_float (ws ds : List Int) : Pr.spec_rest.f 4 false ⟨#[]⟩ false ws ds false [] [] = some true := by
  unfold Pr.spec_rest.f
  rw [if_neg (by decide), if_pos (by rw [Lib.toList_data]), if_neg (by decide), if_pos (by rfl)]
  rfl

set_option maxHeartbeats 2000000 in
set_option maxRecDepth 1000000 in
/-- spec.Rational of a fraction that is told. -/
theorem rational_c {w : World} {u v : Value} {n d : Nat} (hu : WN w u n) (hv : WN w v d) (hn : Few n) (hd : Few d) (hd0 : 0 < d) (hg : Nat.gcd n d = 1) :
    Calls Tryz.prog 31 #[FlV u v] w fun e w' => ∃ r, e = .returned (.tuple #[r, .bool true]) ∧ SR w' r n d ∧ Below w.heap.size w w' := by
  have HU := Aside0.mk hu
  have HV := Aside0.mk hv
  have HR := Aside0.mk (fun W (hb : Below w.heap.size w W) => (show Calls Tryz.prog 36 #[FlV u v] W fun e w' => e = .returned (.bool true) ∧ Below W.heap.size W w' by
    obtain ⟨A, c, rfl, h1, h2⟩ := hu
    obtain ⟨B, cb, rfl, h3, h4⟩ := hv
    refine (Pr.spec_rest.calls 4 false ⟨#[]⟩ false A c _ B cb _ false none 0 [] none 0 [] true W (Kd.C_below h2 hb) h1 (Kd.C_below h4 hb) h3 (C_nil none) (Nat.le_refl _) (C_nil none) (Nat.le_refl _) (rest_float _ _)).mono ?_
    rintro e w' ⟨rfl, hB⟩
    exact ⟨rfl, by first | exact hB | exact drawn_below hB⟩))
  have HF := Aside0.mk (fun W (h : WN W u n) (h' : WN W v d) => fraction_c h h' hn hd hd0 hg)
  obtain ⟨A, la, ca, rfl⟩ := hu.slice'
  obtain ⟨B, lb, cb, rfl⟩ := hv.slice'
  clear hu hv hn hd hd0 hg
  unfold FlV at *
  obtain ⟨W9, hW9⟩ : ∃ W9, W9 = (w.alloc (.cells #[.int .i64 4, .bool false, .string ⟨#[]⟩, .bool false, .slice A la ca, .slice B lb cb, .bool false, .slice none 0 0, .slice none 0 0] 26)).alloc (.cells #[.bool false, .slice none 0 0, .slice none 0 0] 31) := ⟨_, rfl⟩
  have HBW := Aside0.mk (show Below w.heap.size w W9 by rw [hW9]; exact ((Below.refl _ _).alloc (Nat.le_refl _) _).alloc (by simp) _)
  have HM := Aside0.mk (fun W (h : Below W9.heap.size W9 W) => blk3 (w := w.alloc (.cells #[.int .i64 4, .bool false, .string ⟨#[]⟩, .bool false, .slice A la ca, .slice B lb cb, .bool false, .slice none 0 0, .slice none 0 0] 26)) (W := W) (g := w.heap.size + 1) (x := .bool false) (y := .slice none 0 0) (z := .slice none 0 0) (t := 31) (by rw [← hW9]; exact h) (by simp))
  have HE := Aside0.mk (fun W (h : Below W9.heap.size W9 W) i => show W.cell? ⟨w.heap.size, i, none⟩ = (#[Value.int .i64 4, .bool false, .string ⟨#[]⟩, .bool false, .slice A la ca, .slice B lb cb, .bool false, .slice none 0 0, .slice none 0 0])[i]? from by
    rw [(h.cell (p := ⟨w.heap.size, i, none⟩) (by rw [hW9]; simp; omega))]
    rw [hW9]
    exact ((Below.refl (w.heap.size + 1) _).alloc (by simp) _).cell (p := ⟨w.heap.size, i, none⟩) (by simp) |>.trans (World.cell?_alloc_at _ _ _ _ rfl))
  have HW9 := Aside0.mk hW9
  clear hW9
  go_enter Tryz.func31, Tryz.ntmps31
  go_wp2_with (first | (go_at_call 36; go_must (refine (HR.out _ (by rw [← HW9.out]; exact HBW.out)).mono ?_); rintro e w1 ⟨rfl, h1⟩; have H1 := Aside0.mk (show Below W9.heap.size W9 w1 by rw [HW9.out]; exact h1); have q0 := HE.out w1 H1.out 3; have q1 := HE.out w1 H1.out 4; have q2 := HE.out w1 H1.out 5; clear h1) | (go_at_call 52; go_must (refine (HF.out _ ((HU.out.below HBW.out).below H1.out) ((HV.out.below HBW.out).below H1.out)).mono ?_); rintro e w2 ⟨r, rfl, h2, h3⟩; obtain ⟨x, y, rfl, h4, h5⟩ := h2; obtain ⟨X, lx, cx, rfl⟩ := h4.slice'; obtain ⟨Y, ly, cy, rfl⟩ := h5.slice'; have H4 := Aside0.mk h4; have H5 := Aside0.mk h5; have H3 := Aside0.mk (below_step H1.out h3); clear h3 h4 h5; obtain ⟨m0, m1, m2, n0, n1, n2⟩ := HM.out w2 H3.out))
  refine bodyPost_ret (v := .tuple #[.agg #[.bool false, .slice X lx cx, .slice Y ly cy], .bool true]) (by simp [results, Tryz.results31, go_sem, m0, m1, m2]) rfl ?_
  exact ⟨_, rfl, ⟨_, _, rfl, H4.out.put3 m0 m1 m2 _ _ _, H5.out.put3 m0 m1 m2 _ _ _⟩, below_put3 (HBW.out.trans (H3.out.mono HBW.out.size)) (by omega) _ _ _⟩

theorem same_c {w : World} {u v u' v' : Value} {n d : Nat} (hu : SN w u n) (hv : SN w v d) (hu' : SN w u' n) (hv' : SN w v' d) (hn : Tiny n) (hd : Tiny d) :
    Calls Tryz.prog 25 #[.agg #[.bool false, u, v], .agg #[.bool false, u', v']] w fun e w' => e = .returned (.bool true) ∧ Below w.heap.size w w' := by
  obtain ⟨A, c, rfl, h1, h2⟩ := hu
  obtain ⟨B, cb, rfl, h3, h4⟩ := hv
  obtain ⟨A', c', rfl, h1', h2'⟩ := hu'
  obtain ⟨B', cb', rfl, h3', h4'⟩ := hv'
  unfold Tiny at hn hd
  refine (Pr.spec_same.calls 20000 false A c _ B cb _ false A' c' _ B' cb' _ true w h2 h1 h4 h3 h2' h1' h4' h3' (same_f false _ _ (by omega) (by omega) 20000 (by omega) (by omega))).mono ?_
  rintro e w' ⟨rfl, hB⟩
  exact ⟨rfl, by first | exact hB | exact drawn_below hB⟩

set_option maxHeartbeats 2000000 in
set_option maxRecDepth 1000000 in
/-- spec.IsFloat: true of a fraction that is told, where it is the one asked for. -/
theorem isFloat_c {w : World} {u v u' v' : Value} {n d : Nat} (hu : WN w u n) (hv : WN w v d) (hu' : SN w u' n) (hv' : SN w v' d) (hn : Few n) (hd : Few d) (hd0 : 0 < d) (hg : Nat.gcd n d = 1) :
    Calls Tryz.prog 18 #[FlV u v, .agg #[.bool false, u', v']] w fun e w' => e = .returned (.bool true) ∧ Below w.heap.size w w' := by
  have HU := Aside0.mk hu
  have HV := Aside0.mk hv
  have HU' := Aside0.mk hu'
  have HV' := Aside0.mk hv'
  have HR := Aside0.mk (fun W (h : WN W u n) (h' : WN W v d) => rational_c h h' hn hd hd0 hg)
  have HS := Aside0.mk (fun W x y (h : SN W x n) (h' : SN W y d) (k : SN W u' n) (k' : SN W v' d) => same_c h h' k k' hn.tiny hd.tiny)
  obtain ⟨A, la, ca, rfl⟩ := hu.slice'
  obtain ⟨B, lb, cb, rfl⟩ := hv.slice'
  obtain ⟨A', la', ca', rfl⟩ := hu'.slice'
  obtain ⟨B', lb', cb', rfl⟩ := hv'.slice'
  clear hu hv hu' hv' hn hd hd0 hg
  unfold FlV at *
  obtain ⟨W9, hW9⟩ : ∃ W9, W9 = (w.alloc (.cells #[.int .i64 4, .bool false, .string ⟨#[]⟩, .bool false, .slice A la ca, .slice B lb cb, .bool false, .slice none 0 0, .slice none 0 0] 26)).alloc (.cells #[.bool false, .slice A' la' ca', .slice B' lb' cb'] 31) := ⟨_, rfl⟩
  have HBW := Aside0.mk (show Below w.heap.size w W9 by rw [hW9]; exact ((Below.refl _ _).alloc (Nat.le_refl _) _).alloc (by simp) _)
  have HM := Aside0.mk (fun W (h : Below W9.heap.size W9 W) => blk3 (w := w.alloc (.cells #[.int .i64 4, .bool false, .string ⟨#[]⟩, .bool false, .slice A la ca, .slice B lb cb, .bool false, .slice none 0 0, .slice none 0 0] 26)) (W := W) (g := w.heap.size + 1) (x := .bool false) (y := .slice A' la' ca') (z := .slice B' lb' cb') (t := 31) (by rw [← hW9]; exact h) (by simp))
  have HZ := Aside0.mk (show w.heap.size + 1 < W9.heap.size by rw [hW9]; simp)
  have HW9 := Aside0.mk hW9
  clear hW9
  go_enter Tryz.func18, Tryz.ntmps18
  go_wp2_with (first | (go_at_call 31; go_must (refine (HR.out _ (by rw [← HW9.out]; exact HU.out.below HBW.out) (by rw [← HW9.out]; exact HV.out.below HBW.out)).mono ?_); rintro e w1 ⟨r, rfl, h2, h3⟩; obtain ⟨x, y, rfl, h4, h5⟩ := h2; obtain ⟨X, lx, cx, rfl⟩ := h4.slice'; obtain ⟨Y, ly, cy, rfl⟩ := h5.slice'; have H4 := Aside0.mk h4; have H5 := Aside0.mk h5; have H3 := Aside0.mk (show Below W9.heap.size W9 w1 by rw [HW9.out]; exact h3); have H6 := Aside0.mk ((Below.refl w1.heap.size w1).alloc (Nat.le_refl _) (.cells #[.bool false, .slice X lx cx, .slice Y ly cy] 31)); clear h3 h4 h5; obtain ⟨m0, m1, m2, n0, n1, n2⟩ := HM.out w1 H3.out; have hz : w.heap.size + 1 < w1.heap.size := (Nat.lt_of_lt_of_le HZ.out H3.out.size)) | (go_at_call 25; go_must (refine (HS.out _ _ _ (H4.out.below H6.out) (H5.out.below H6.out) (((HU'.out.below HBW.out).below H3.out).below H6.out) (((HV'.out.below HBW.out).below H3.out).below H6.out)).mono ?_); rintro e w2 ⟨rfl, h7⟩; have H7 := Aside0.mk h7; clear h7))
  go_ret
  exact ⟨rfl, below_step (below_step (HBW.out.trans (H3.out.mono HBW.out.size)) H6.out) H7.out⟩
end Go.Proofs.YtgpoplfgngiilaaGreatDoor
namespace Go.Proofs.YtgpoplfgngiilaaGreatDoor
set_option linter.unusedVariables false
set_option linter.unusedSimpArgs false
open Go.RowKit Go.Proofs.YtgpoplfgngiilaaGreatDoorW.PrintWords Go.Proofs.YtgpoplfgngiilaaGreatDoorW.PrintLast Go.Proofs.YtgpoplfgngiilaaGreatDoorW.PrintMore
attribute [local go_sem] me_kind_126

/-- What told hands back of a fraction n / d. -/
def ToldRat (n d : Nat) (w : World) (e : Ending) (w' : World) : Prop :=
  ∃ u v, e = .returned (FlV u v) ∧ Kd.R (Kd.int .u64) 50 w' w.heap.size (fun _ => True) u (lits 18446744073709551616 n) ∧ Kd.R (Kd.int .u64) 50 w' w.heap.size (fun _ => True) v (lits 18446744073709551616 d) ∧ Below w.heap.size w w'

set_option maxHeartbeats 4000000 in
set_option maxRecDepth 1000000 in
theorem told_rat (z : Nat) (A B : Option Addr) (c d : Nat) (ws ds : List Int) (w : World) (hl : ws.length < 17592186044416) (hl2 : ds.length < 17592186044416) (hl0 : 0 < ds.length)
    (hz : Rz w z (.slice A ws.length c) (.slice B ds.length d)) (hr : Kd.C (Kd.int .u64) w A ws.length ws) (hr2 : Kd.C (Kd.int .u64) w B ds.length ds) :
    Calls Tryz.prog 26 #[.iface 126 (.agg #[.pointer (some ⟨z, 0, none⟩)])] w fun e w' => ∃ u v, e = .returned (.agg #[.int .i64 4, .bool false, .string ⟨#[]⟩, .bool false, u, v, .bool false, .slice none 0 0, .slice none 0 0]) ∧ Kd.R (Kd.int .u64) 50 w' w.heap.size (fun _ => True) u ws ∧ Kd.R (Kd.int .u64) 50 w' w.heap.size (fun _ => True) v ds ∧ Below w.heap.size w w' := by
  have HP := Aside0.mk (fun W (hB : Below w.heap.size w W) => parts_rat z A B c d ws ds W hl hl2 hl0 (show Rz W z _ _ from (hB.block z hz.lt).trans hz) (Kd.C_below hr hB) (Kd.C_below hr2 hB))
  clear hr hr2 hz hl hl2 hl0
  go_enter Tryz.func26, Tryz.ntmps26
  go_wp2_with (first | (go_at_call 40; (refine Calls.mono ((fun W (hW : Below w.heap.size w W) => (⟨hW, HP.out W hW⟩ : _ ∧ _)) _ (by repeat (first | exact Below.refl _ _ | refine Below.setCell ?_ (by first | (simp; done) | (simp; omega)) _ | refine Below.alloc ?_ (by first | (simp; done) | (simp; omega)) _))).2 ?_); rintro e w1 ⟨u, v, rfl, hR, hR2, hB⟩; have HB0 := Aside0.mk (hidB (w := w) hB (by repeat (first | exact Below.refl _ _ | refine Below.setCell ?_ (by first | (simp; done) | (simp; omega)) _ | refine Below.alloc ?_ (by first | (simp; done) | (simp; omega)) _))); have hR' := Aside0.mk hR; have hR2' := Aside0.mk hR2; have hB' := Aside0.mk hB; have hs := hB.size; simp only [World.size_alloc] at hs; obtain ⟨q1, q2⟩ := bcell hB; simp only [World.size_alloc] at q1 q2; have hz : w.heap.size < w1.heap.size := (by omega); have hz1 : w.heap.size + 1 < w1.heap.size := (by omega); clear hR hR2 hB; obtain ⟨Av, cv, rfl, -⟩ := Kd.R_reads hR'.out; obtain ⟨Au, cu, rfl, -⟩ := Kd.R_reads hR2'.out) | go_in)
  have e0 : w1.cell? ⟨w.heap.size, 0, none⟩ = some (.int .i64 0) := (q1 w.heap.size 0 (by omega)).trans (by go_simp)
  have e1 : w1.cell? ⟨w.heap.size, 1, none⟩ = some (.bool false) := (q1 w.heap.size 1 (by omega)).trans (by go_simp)
  have e2 : w1.cell? ⟨w.heap.size, 2, none⟩ = some (.string ⟨#[]⟩) := (q1 w.heap.size 2 (by omega)).trans (by go_simp)
  have e3 : w1.cell? ⟨w.heap.size, 3, none⟩ = some (.bool false) := (q1 w.heap.size 3 (by omega)).trans (by go_simp)
  have e4 : w1.cell? ⟨w.heap.size, 4, none⟩ = some (.slice none 0 0) := (q1 w.heap.size 4 (by omega)).trans (by go_simp)
  have e5 : w1.cell? ⟨w.heap.size, 5, none⟩ = some (.slice none 0 0) := (q1 w.heap.size 5 (by omega)).trans (by go_simp)
  have e6 : w1.cell? ⟨w.heap.size, 6, none⟩ = some (.bool false) := (q1 w.heap.size 6 (by omega)).trans (by go_simp)
  have e7 : w1.cell? ⟨w.heap.size, 7, none⟩ = some (.slice none 0 0) := (q1 w.heap.size 7 (by omega)).trans (by go_simp)
  have e8 : w1.cell? ⟨w.heap.size, 8, none⟩ = some (.slice none 0 0) := (q1 w.heap.size 8 (by omega)).trans (by go_simp)
  refine bodyPost_ret (v := .agg #[.int .i64 4, .bool false, .string ⟨#[]⟩, .bool false, .slice Av ws.length cv, .slice Au ds.length cu, .bool false, .slice none 0 0, .slice none 0 0]) (by simp [results, Tryz.results26, go_sem, e0, e1, e2, e3, e4, e5, e6, e7, e8]) rfl ⟨_, _, rfl, ?_, ?_, ?_⟩
  · refine R_after (N := w.heap.size + 3) hR'.out (by simp; try omega) (by simp; try omega) ?_
    intro k h1 h2
    repeat (refine hk_set (by simp; omega) ?_)
    rfl
  · refine R_after (N := w.heap.size + 3) hR2'.out (by simp; try omega) (by simp; try omega) ?_
    intro k h1 h2
    repeat (refine hk_set (by simp; omega) ?_)
    rfl
  · have hb0 : Below w.heap.size w w1 := HB0.out.trans (hB'.out.mono HB0.out.size)
    repeat (refine Below.setCell ?_ (by first | (simp; done) | (simp; omega)) _)
    exact hb0

theorem NW_C {w : World} {g : Nat} {v : Value} {n : Nat} (h : NW w g v n) : ∃ A c, v = .slice A (lits 18446744073709551616 n).length c ∧ Kd.C (Kd.int .u64) w A (lits 18446744073709551616 n).length (lits 18446744073709551616 n) := by
  obtain ⟨ys, rfl, h3, h4, h5, h6⟩ := h
  have hle : (lits 18446744073709551616 n).length ≤ ys.length := by have := congrArg List.length h4; rw [List.length_take] at this; omega
  refine ⟨some ⟨g, 0, none⟩, _, rfl, Kd.C_of_reads (d := 0) ⟨rfl, by omega, fun _ => ⟨⟨g, 0, none⟩, rfl, fun j hj => ?_⟩⟩⟩
  obtain ⟨hz, he⟩ := take_get h4 j hj
  rw [Addr.add_lit, Nat.zero_add, h3.cell j hz, he]
  simp [List.getD, List.getElem?_eq_getElem hj]
end Go.Proofs.YtgpoplfgngiilaaGreatDoor
namespace Go.Proofs.YtgpoplfgngiilaaGreatDoor
set_option linter.unusedVariables false
set_option linter.unusedSimpArgs false
open Go.RowKit Go.Proofs.YtgpoplfgngiilaaGreatDoorW.PrintWords

set_option maxHeartbeats 2000000 in
set_option maxRecDepth 1000000 in
theorem lshVU_g1 (gz off cz gx cx X s t : Nat) (w : World) (z0 : Value) (hx : w.cell? ⟨gx, 0, none⟩ = some (.int .u64 X)) (hz : w.cell? ⟨gz, off, none⟩ = some z0) (hf : w.frozen? ⟨gz, off, none⟩ = false) (hs : 0 < s) (ht0 : 0 < t) (hst : s + t = 64) (h1 : 1 ≤ cz) (h2 : 1 ≤ cx) :
    Calls Tryz.prog 181 #[.slice (some ⟨gz, off, none⟩) 1 cz, .slice (some ⟨gx, 0, none⟩) 1 cx, .int .u64 s] w fun e w' =>
      e = .returned (.int .u64 ((X / 2 ^ t : Nat) : Int)) ∧ w' = w.setCell ⟨gz, off, none⟩ (.int .u64 ((X * 2 ^ s % 18446744073709551616 : Nat) : Int)) := by
  have hs64 : s < 64 := by omega
  have ht64 : t < 64 := by omega
  have e1 := and_63 s hs64
  have e2 := and_63 t ht64
  have e3 : (64 : Int) - (s : Int) = (t : Int) := by omega
  have hs1 : ((s : Int) == 0) = false := beq_false_of_ne (by omega)
  have HW := Aside0.mk (show IntKind.u64.wrap ((X : Int) * 2 ^ s) = ((X * 2 ^ s % 18446744073709551616 : Nat) : Int) by rw [IntKind.wrap_u64]; simp)
  go_enter Tryz.func181, Tryz.ntmps181
  go_wp2_with fail
  go_loopg [8] 0 (fun kq v8 w' => v8 = .int .i64 0 ∧ w = w')
  case atStart => exact ⟨by go_num, rfl⟩
  case round =>
    obtain ⟨rfl, rfl⟩ := hrel
    go_wp2_with fail
    go_ret
    rw [HW.out]
    exact ⟨by simp, rfl⟩

set_option maxHeartbeats 2000000 in
set_option maxRecDepth 1000000 in
theorem lshVU1 (gz off cz gx cx X s t : Nat) (w : World) (z0 : Value) (hx : w.cell? ⟨gx, 0, none⟩ = some (.int .u64 X)) (hz : w.cell? ⟨gz, off, none⟩ = some z0) (hf : w.frozen? ⟨gz, off, none⟩ = false) (hs : 0 < s) (ht0 : 0 < t) (hst : s + t = 64) (h1 : 1 ≤ cz) (h2 : 1 ≤ cx) :
    Calls Tryz.prog 133 #[.slice (some ⟨gz, off, none⟩) 1 cz, .slice (some ⟨gx, 0, none⟩) 1 cx, .int .u64 s] w fun e w' =>
      e = .returned (.int .u64 ((X / 2 ^ t : Nat) : Int)) ∧ w' = w.setCell ⟨gz, off, none⟩ (.int .u64 ((X * 2 ^ s % 18446744073709551616 : Nat) : Int)) := by
  have H := Aside0.mk (lshVU_g1 gz off cz gx cx X s t w z0 hx hz hf hs ht0 hst h1 h2)
  clear hx hz hf hs ht0 hst h1 h2
  go_enter Tryz.func133, Tryz.ntmps133
  go_wp2_with (go_at_call 181; go_must (refine H.out.mono ?_); rintro e w1 ⟨rfl, rfl⟩)
  go_ret
  exact ⟨rfl, rfl⟩
end Go.Proofs.YtgpoplfgngiilaaGreatDoor
