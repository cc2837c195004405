/- FnLiteralHexFloat, behind its card (G12). -/
import Derived.Test.YtgpoplfgngiilaaGreatDoorR21
import Derived.Deep.RegionHeld3
set_option linter.unusedVariables false
set_option linter.unusedSimpArgs false
namespace Go.Proofs.YtgpoplfgngiilaaGreatDoor
set_option linter.unusedVariables false
set_option linter.unusedSimpArgs false
open Go.RowKit Go.Proofs.YtgpoplfgngiilaaGreatDoorW.PrintWords

/-- A Rat. -/
def Rz (w : World) (z : Nat) (u v : Value) : Prop := w.heap[z]? = some (.cells #[.bool false, u, .bool false, v] 165 (0, 0))
theorem Rz.far {S : Nat → Prop} {w w' : World} {z : Nat} {u v : Value} (h : Rz w z u v) (hf : Fr S w w') (hn : ¬ S z) : Rz w' z u v := (hf.block z (Go.Proofs.YtgpoplfgngiilaaGreatDoorW.PrintWords.blk_lt h) hn).trans h
theorem Rz.lt {w : World} {z : Nat} {u v : Value} (h : Rz w z u v) : z < w.heap.size := Go.Proofs.YtgpoplfgngiilaaGreatDoorW.PrintWords.blk_lt h
theorem Rz.c0 {w : World} {z : Nat} {u v : Value} (h : Rz w z u v) : w.cell? ⟨z, 0, none⟩ = some (.bool false) := Go.Proofs.YtgpoplfgngiilaaGreatDoorW.PrintWords.blk_cell h 0
theorem Rz.c1 {w : World} {z : Nat} {u v : Value} (h : Rz w z u v) : w.cell? ⟨z, 1, none⟩ = some u := Go.Proofs.YtgpoplfgngiilaaGreatDoorW.PrintWords.blk_cell h 1
theorem Rz.c2 {w : World} {z : Nat} {u v : Value} (h : Rz w z u v) : w.cell? ⟨z, 2, none⟩ = some (.bool false) := Go.Proofs.YtgpoplfgngiilaaGreatDoorW.PrintWords.blk_cell h 2
theorem Rz.c3 {w : World} {z : Nat} {u v : Value} (h : Rz w z u v) : w.cell? ⟨z, 3, none⟩ = some v := Go.Proofs.YtgpoplfgngiilaaGreatDoorW.PrintWords.blk_cell h 3
theorem Rz.f {w : World} {z : Nat} {u v : Value} (h : Rz w z u v) (i : Nat) : w.frozen? ⟨z, i, none⟩ = false := Go.Proofs.YtgpoplfgngiilaaGreatDoorW.PrintWords.blk_frozen h i
theorem Rz.set0 {w : World} {z : Nat} {u v : Value} (h : Rz w z u v) : Rz (w.setCell ⟨z, 0, none⟩ (.bool false)) z u v := Go.Proofs.YtgpoplfgngiilaaGreatDoorW.PrintWords.blk_set h 0 (.bool false)
theorem Rz.set2 {w : World} {z : Nat} {u v : Value} (h : Rz w z u v) : Rz (w.setCell ⟨z, 2, none⟩ (.bool false)) z u v := Go.Proofs.YtgpoplfgngiilaaGreatDoorW.PrintWords.blk_set h 2 (.bool false)
theorem Rz.set1 {w : World} {z : Nat} {u v : Value} (h : Rz w z u v) (x : Value) : Rz (w.setCell ⟨z, 1, none⟩ x) z x v := Go.Proofs.YtgpoplfgngiilaaGreatDoorW.PrintWords.blk_set h 1 x
theorem Rz.set3 {w : World} {z : Nat} {u v : Value} (h : Rz w z u v) (x : Value) : Rz (w.setCell ⟨z, 3, none⟩ x) z u x := Go.Proofs.YtgpoplfgngiilaaGreatDoorW.PrintWords.blk_set h 3 x
theorem Rz.a {w : World} {z : Nat} {u v : Value} (h : Rz w z u v) : IA w z 0 u := ⟨_, _, h, rfl, rfl⟩
theorem Rz.b {w : World} {z : Nat} {u v : Value} (h : Rz w z u v) : IA w z 2 v := ⟨_, _, h, rfl, rfl⟩
theorem NW.neR {w : World} {g h : Nat} {v u u' : Value} {n : Nat} (h1 : NW w g v n) (h2 : Rz w h u u') : h ≠ g := by
  intro e
  subst e
  obtain ⟨ys, e1, h3, -⟩ := h1
  have h4 := (show w.heap[h]? = _ from h2).symm.trans (show w.heap[h]? = _ from h3)
  injection h4 with h4
  injection h4 with h4 h5
  cases h5

set_option maxHeartbeats 4000000 in
set_option maxRecDepth 1000000 in
/-- norm of a fraction whose parts are not 0, one of them a word. -/
theorem rat_norm (z g1 g2 N D : Nat) (u v : Value) (w : World) (hz : Rz w z u v) (hu : NW w g1 u N) (hv : NW w g2 v D) (hg : g1 ≠ g2) (hN : 0 < N) (hD : 0 < D) (hNl : (lits 18446744073709551616 N).length ≤ 1000) (hDl : (lits 18446744073709551616 D).length ≤ 1000)
    (h1 : min N D < 18446744073709551616)
    (hc : (lits 18446744073709551616 N).length ≠ (lits 18446744073709551616 D).length ∨ (N < 18446744073709551616 ∧ D < 18446744073709551616)) :
    Calls Tryz.prog 95 #[.pointer (some ⟨z, 0, none⟩)] w fun e w' =>
      ∃ u' v', e = .returned (.pointer (some ⟨z, 0, none⟩)) ∧ Rz w' z u' v' ∧ NW w' g1 u' (N / Nat.gcd N D) ∧ NW w' g2 v' (D / Nat.gcd N D) ∧ Fr (fun k => k = z ∨ k = g1 ∨ k = g2) w w' := by
  have HZ := Aside0.mk hz
  have HU := Aside0.mk hu
  have HV := Aside0.mk hv
  have HC := Aside0.mk (And.intro hN (And.intro hD (And.intro hNl (And.intro hDl (And.intro h1 (And.intro hc hg))))))
  obtain ⟨cu, rfl⟩ := hu.slice
  obtain ⟨cv, rfl⟩ := hv.slice
  obtain ⟨lN, hlN⟩ : ∃ l, (lits 18446744073709551616 N).length = l := ⟨_, rfl⟩
  obtain ⟨lD, hlD⟩ : ∃ l, (lits 18446744073709551616 D).length = l := ⟨_, rfl⟩
  have z0 := hz.c0
  have z1 := hz.c1
  have z2 := hz.c2
  have z3 := hz.c3
  have f0 := hz.f 0
  have f2 := hz.f 2
  have hzl := hz.lt
  have pN := wl_pos hN
  have pD := wl_pos hD
  rw [hlN] at z1 pN
  rw [hlD] at z3 pD
  have bN : ((lN : Int) == 0) = false := beq_false_of_ne (by omega)
  have bD : ((lD : Int) == 0) = false := beq_false_of_ne (by omega)
  have HLN := Aside0.mk (And.intro hlN hlD)
  clear hz hu hv hg hN hD hNl hDl h1 hc hlN hlD
  have HS := Aside0.mk get_stack
  go_enter_defers Tryz.func95, Tryz.ntmps95
  go_upto_region 10 with (go_at_call 113; go_must (refine (HS.out _).mono ?_); rintro e w1 ⟨rfl, rfl⟩)
  obtain ⟨W, hW⟩ : ∃ W, W = ((w.setCell ⟨z, 0, none⟩ (.bool false)).setCell ⟨z, 2, none⟩ (.bool false)).alloc (.cells #[.pointer none] 244) := ⟨_, rfl⟩
  rw [← hW]
  have FW : Fr (fun k => k = z) w W := by rw [hW]; exact (fr_put1 (S := fun k => k = z) (fr_put1 (S := fun k => k = z) (Fr.refl _ _) rfl _ _) rfl _ _).alloc _
  have R1 : Rz W z (.slice (some ⟨g1, 0, none⟩) (lits 18446744073709551616 N).length cu) (.slice (some ⟨g2, 0, none⟩) (lits 18446744073709551616 D).length cv) := by
    rw [hW]
    exact Rz.far (S := fun _ => False) HZ.out.set0.set2 ((Fr.refl _ _).alloc _) (fun h => h)
  have n1 := HU.out.neR HZ.out
  have n2 := HV.out.neR HZ.out
  have U1 := HU.out.far FW (fun h => n1 h.symm)
  have V1 := HV.out.far FW (fun h => n2 h.symm)
  have st : W.cell? ⟨w.heap.size, 0, none⟩ = some (.pointer none) := by
    rw [hW]
    have h0 : ((w.setCell ⟨z, 0, none⟩ (.bool false)).setCell ⟨z, 2, none⟩ (.bool false)).heap.size = w.heap.size := by simp [World.setCell]
    have := heap_alloc_new ((w.setCell ⟨z, 0, none⟩ (.bool false)).setCell ⟨z, 2, none⟩ (.bool false)) (.cells #[.pointer none] 244)
    rw [h0] at this
    exact Go.Proofs.YtgpoplfgngiilaaGreatDoorW.PrintWords.blk_cell this 0
  have sz : W.heap.size = w.heap.size + 1 := by rw [hW]; simp [World.setCell]
  have HR := Aside0.mk (And.intro R1 (And.intro U1 (And.intro V1 (And.intro st (And.intro sz (And.intro n1 n2))))))
  have HF := Aside0.mk FW
  have HLG := Aside0.mk (fun W' (hF : Fr (fun _ => False) W W') (f : Nat) (hf : W.heap.size ≤ f) (hI : Iz W' f (.slice none 0 0)) =>
    lehmer f z 0 z 2 g1 g2 N D _ _ W' hI (R1.far hF (fun h => h)).a (R1.far hF (fun h => h)).b (U1.far hF (fun h => h)) (V1.far hF (fun h => h)) (by have := R1.lt; omega) (by have := R1.lt; omega) HC.out.1 HC.out.2.1 HC.out.2.2.1 HC.out.2.2.2.1 HC.out.2.2.2.2.1 HC.out.2.2.2.2.2.1)
  clear hW FW R1 n1 n2 U1 V1 st sz z0 z1 z2 z3 f0 f2 hzl bN bD pN pD
  refine wp_region_noPanic ?_
  go_region_with (first
    | (go_at_call 135; refine (new_int0 _).mono ?_; rintro e w2 ⟨rfl, rfl⟩)
    | (go_at_call 136; refine (HLG.out _ ((Fr.drew (Fr.refl _ _)).alloc _) W.heap.size (Nat.le_refl _) (heap_alloc_new W.drew _)).mono ?_; rintro e w3 ⟨v3, g3, hg3, rfl, k1, k2, k3⟩; have K1 := Aside0.mk (And.intro k1 (And.intro k2 hg3)); have K3 := Aside0.mk k3; clear k1 k2 k3 hg3))
  refine NoPanic.normal ?_
  have F3 := Aside0.mk ((Fr.drew (Fr.refl (fun _ => False) W)).trans (Fr.newTrans (W := W.drew) K3.out))
  have G0 := Aside0.mk (show 0 < Nat.gcd N D ∧ Nat.gcd N D < 18446744073709551616 from ⟨Nat.gcd_pos_of_pos_left D HC.out.1, Nat.lt_of_le_of_lt (Nat.le_min.2 ⟨Nat.gcd_le_left D HC.out.1, Nat.gcd_le_right N HC.out.2.1⟩) HC.out.2.2.2.2.1⟩)
  have GL := Aside0.mk (show (lits 18446744073709551616 (Nat.gcd N D)).length ≤ 1000 by rw [wl_one G0.out.1 G0.out.2]; simp)
  have L1 := Aside0.mk (show (lits 18446744073709551616 1).length ≤ 1000 by rw [wl_one (by decide) (by decide)]; simp)
  have FL := Aside0.mk (show W.heap.size < w3.heap.size from K1.out.1.lt)
  obtain ⟨sv, hsv, hsc⟩ : ∃ sv : Int, sg (Nat.gcd N D) 1 = sv ∧ ((sv = 0 ∧ Aside0 (Nat.gcd N D = 1)) ∨ (sv = 1 ∧ Aside0 (1 < Nat.gcd N D))) := by
    rcases Nat.lt_or_ge 1 (Nat.gcd N D) with h | h
    · refine ⟨1, ?_, Or.inr ⟨rfl, ⟨h⟩⟩⟩
      simp only [sg]
      rw [if_neg (by omega), if_pos h]
    · have h2 : Nat.gcd N D = 1 := Nat.le_antisymm h G0.out.1
      exact ⟨0, by rw [h2]; decide, Or.inl ⟨rfl, ⟨h2⟩⟩⟩
  have HSV := Aside0.mk hsv
  clear hsv
  rcases hsc with ⟨rfl, hG⟩ | ⟨rfl, hG⟩
  all_goals
    go_upto_if 62 with (first
      | (go_at_call 138; refine (int_one _).mono ?_; rintro e w4 ⟨go, vo, rfl, hgo, o1, o2, o3, o4⟩; have O1 := Aside0.mk (And.intro o1 o2); have O2 := Aside0.mk (And.intro hgo o3); have O4 := Aside0.mk o4; clear o1 o2 o3 o4 hgo)
      | (go_at_call 137; refine (int_cmp W.heap.size go g3 w3.heap.size (Nat.gcd N D) 1 v3 vo w4 (K1.out.1.far O4.out (fun h => h)) O1.out.1 (K1.out.2.1.far O4.out (fun h => h)) O1.out.2 (by have h1 := O2.out.1; have h2 := FL.out; omega) G0.out.1 (by decide) GL.out L1.out (Or.inr ⟨G0.out.2, by decide⟩)).mono ?_; rintro e w5 ⟨rfl, h5⟩; rw [HSV.out]; have F5 := Aside0.mk ((F3.out.trans O4.out).trans h5); have FK := Aside0.mk (O4.out.trans h5); clear h5))
    have R5 := HR.out.1.far F5.out (fun h => h)
    have z0 := R5.c0
    have y0 := R5.f 0
  · go_wp2_with fail
    have hst := F5.out.cellv HR.out.2.2.2.1 (fun h => h)
    refine leaves_cons (f := 114) (args := #[.pointer (some ⟨w.heap.size, 0, none⟩)]) (by simp) (enters_of Tryz.func114 (by kernel_rfl) rfl _ _) ?_
    refine (free_d _ _ _ ((Fr.cellv (S := fun k => k = z) (fr_put1 (S := fun k => k = z) (Fr.refl _ w5) rfl 0 (.bool false)) hst (by have := HZ.out.lt; show ¬ w.heap.size = z; omega)))).mono ?_
    rintro e u' w'' ⟨rfl, rfl, rfl⟩
    refine ⟨_, results_tmp rfl _ _ _, ?_⟩
    obtain ⟨r1, r2, r3, r4, r5, r6, r7⟩ := HR.out
    have F6 := fr_put1 (S := fun k => k = z) (Fr.refl _ w5) rfl 0 (.bool false)
    refine ⟨_, _, rfl, R5.set0, ?_, ?_, ?_⟩
    · rw [hG.out, Nat.div_one]; exact (r2.far F5.out (fun h => h)).far F6 (fun h => r6 h.symm)
    · rw [hG.out, Nat.div_one]; exact (r3.far F5.out (fun h => h)).far F6 (fun h => r7 h.symm)
    · exact (HF.out.mono (fun k hk => Or.inl hk)).trans ((F5.out.mono (fun _ h => h.elim)).trans (F6.mono (fun k hk => Or.inl hk)))
  · have I5 := (K1.out.1.far FK.out (fun h => h))
    obtain ⟨-, -, c3, hv3⟩ := K1.out.2.1.cell0 G0.out.1 G0.out.2
    subst hv3
    have x1 := R5.c1
    have f1 := R5.f 1
    have x3 := R5.c3
    have f3 := R5.f 3
    have i1 := I5.c1
    rw [HLN.out.1] at x1
    rw [HLN.out.2] at x3
    have HD1 : Aside0 (∀ W', Fr (fun _ => False) w5 W' → Calls Tryz.prog 139 #[.slice (some ⟨g1, 0, none⟩) lN cu, .pointer (some ⟨w.heap.size, 0, none⟩), .slice none 0 0, .slice (some ⟨g1, 0, none⟩) lN cu, .slice (some ⟨g3, 0, none⟩) 1 c3] W' fun e w' => ∃ q r, e = .returned (.tuple #[q, r]) ∧ NW w' g1 q (N / Nat.gcd N D) ∧ Fr (fun k => k = g1) W' w') :=
      ⟨fun W' h => by
        have hu := (HR.out.2.1.far F5.out (fun h => h)).far h (fun h => h)
        rw [HLN.out.1] at hu
        exact div_self N g1 g3 (Nat.gcd N D) _ _ _ W' hu HC.out.1 HC.out.2.2.1 ((K1.out.2.1.far FK.out (fun h => h)).far h (fun h => h)) hG.out G0.out.2⟩
    go_upto_region 12 with fail
    refine wp_region_noPanic ?_
    obtain ⟨S, hS, hS0⟩ : ∃ S : World → Prop, S w5.drew ∧ ∀ W', S W' → W'.cell? ⟨z, 1, none⟩ = some (.slice (some ⟨g1, 0, none⟩) lN cu) ∧ W'.cell? ⟨W.heap.size, 1, none⟩ = some (.slice (some ⟨g3, 0, none⟩) 1 c3) := ⟨_, ⟨x1, i1⟩, fun _ h => h⟩
    refine wp_region_till S 16 (by kernel_rfl) ?_
    refine till_free (i := 0) (some 64) (v := ?_) rfl rfl (by kernel_rfl) (by kernel_rfl) (by kernel_rfl) (by decide) (fun _ _ _ h => h) (Or.inl ⟨by rfl, ?_⟩) hS ?_
    rotate_left 1
    · ((intro W; go_simp); all_goals (with_reducible rfl))
    (try simp only [Act.put, List.setIfInBounds_toArray, List.set_cons_zero, List.set_cons_succ])
    refine till_free (i := 1) (some 65) (v := ?_) rfl rfl (by kernel_rfl) (by kernel_rfl) (by kernel_rfl) (by decide) (fun _ _ _ h => h) (Or.inl ⟨by rfl, ?_⟩) hS ?_
    rotate_left 1
    · ((intro W; go_simp); all_goals (with_reducible rfl))
    (try simp only [Act.put, List.setIfInBounds_toArray, List.set_cons_zero, List.set_cons_succ])
    refine till_free (i := 2) (some 66) (v := ?_) rfl rfl (by kernel_rfl) (by kernel_rfl) (by kernel_rfl) (by decide) (fun _ _ _ h => h) (Or.inl ⟨by rfl, ?_⟩) hS ?_
    rotate_left 1
    · ((intro W; go_simp); all_goals (with_reducible rfl))
    (try simp only [Act.put, List.setIfInBounds_toArray, List.set_cons_zero, List.set_cons_succ])
    refine till_free (i := 3) (some 67) (v := ?_) rfl rfl (by kernel_rfl) (by kernel_rfl) (by kernel_rfl) (by decide) (fun _ _ _ h => h) (Or.inl ⟨by rfl, ?_⟩) hS ?_
    rotate_left 1
    · ((intro W; go_simp); all_goals (with_reducible rfl))
    (try simp only [Act.put, List.setIfInBounds_toArray, List.set_cons_zero, List.set_cons_succ])
    refine till_free (i := 4) (some 68) (v := ?_) rfl rfl (by kernel_rfl) (by kernel_rfl) (by kernel_rfl) (by decide) (fun _ _ _ h => h) (Or.inl ⟨by rfl, ?_⟩) hS ?_
    rotate_left 1
    · ((intro W; go_simp); all_goals (with_reducible rfl))
    (try simp only [Act.put, List.setIfInBounds_toArray, List.set_cons_zero, List.set_cons_succ])
    refine till_free (i := 6) (some 70) (v := ?_) rfl rfl (by kernel_rfl) (by kernel_rfl) (by kernel_rfl) (by decide) (fun _ _ _ h => h) (Or.inl ⟨by rfl, ?_⟩) hS ?_
    rotate_left 1
    · ((intro W; go_simp); all_goals (with_reducible rfl))
    (try simp only [Act.put, List.setIfInBounds_toArray, List.set_cons_zero, List.set_cons_succ])
    refine till_free (i := 7) (some 71) (v := ?_) rfl rfl (by kernel_rfl) (by kernel_rfl) (by kernel_rfl) (by decide) (fun _ _ _ h => h) (Or.inl ⟨by rfl, ?_⟩) hS ?_
    rotate_left 1
    · ((intro W; go_simp); all_goals (with_reducible rfl))
    (try simp only [Act.put, List.setIfInBounds_toArray, List.set_cons_zero, List.set_cons_succ])
    refine till_free (i := 8) (some 72) (v := ?_) rfl rfl (by kernel_rfl) (by kernel_rfl) (by kernel_rfl) (by decide) (fun _ _ _ h => h) (Or.inl ⟨by rfl, ?_⟩) hS ?_
    rotate_left 1
    · ((intro W; go_simp); all_goals (with_reducible rfl))
    (try simp only [Act.put, List.setIfInBounds_toArray, List.set_cons_zero, List.set_cons_succ])
    refine till_free (i := 9) (some 73) (v := ?_) rfl rfl (by kernel_rfl) (by kernel_rfl) (by kernel_rfl) (by decide) (fun _ _ _ h => h) (Or.inl ⟨by rfl, ?_⟩) hS ?_
    rotate_left 1
    · ((intro W; go_simp); all_goals (with_reducible rfl))
    (try simp only [Act.put, List.setIfInBounds_toArray, List.set_cons_zero, List.set_cons_succ])
    refine till_free (i := 10) (some 74) (v := ?_) rfl rfl (by kernel_rfl) (by kernel_rfl) (by kernel_rfl) (by decide) (fun _ _ _ h => h) (Or.inl ⟨by rfl, ?_⟩) hS ?_
    rotate_left 1
    · ((intro W; go_simp); all_goals (with_reducible rfl))
    (try simp only [Act.put, List.setIfInBounds_toArray, List.set_cons_zero, List.set_cons_succ])
    refine till_free (i := 12) (some 76) (v := ?_) rfl rfl (by kernel_rfl) (by kernel_rfl) (by kernel_rfl) (by decide) (fun _ _ _ h => h) (Or.inl ⟨by rfl, ?_⟩) hS ?_
    rotate_left 1
    · ((intro W; go_simp); all_goals (with_reducible rfl))
    (try simp only [Act.put, List.setIfInBounds_toArray, List.set_cons_zero, List.set_cons_succ])
    refine till_free (i := 13) (some 77) (v := ?_) rfl rfl (by kernel_rfl) (by kernel_rfl) (by kernel_rfl) (by decide) (fun _ _ _ h => h) (Or.inl ⟨by rfl, ?_⟩) hS ?_
    rotate_left 1
    · ((intro W; go_simp); all_goals (with_reducible rfl))
    (try simp only [Act.put, List.setIfInBounds_toArray, List.set_cons_zero, List.set_cons_succ])
    refine till_free (i := 14) (some 78) (v := ?_) rfl rfl (by kernel_rfl) (by kernel_rfl) (by kernel_rfl) (by decide) (fun _ _ _ h => h) (Or.inl ⟨by rfl, ?_⟩) hS ?_
    rotate_left 1
    · ((intro W; go_simp); all_goals (with_reducible rfl))
    (try simp only [Act.put, List.setIfInBounds_toArray, List.set_cons_zero, List.set_cons_succ])
    refine till_take (i := 5) (some 69) (v := ?_) rfl rfl (by kernel_rfl) (by kernel_rfl) (by kernel_rfl) (by kernel_rfl) (by kernel_rfl) (fun _ _ _ h => h) (Or.inl ⟨by rfl, ?_⟩) hS ?_
    rotate_left 1
    · ((intro W hW; have hW2 := hS0 W hW; go_simp); all_goals (with_reducible rfl))
    (try simp only [Act.put, List.setIfInBounds_toArray, List.set_cons_zero, List.set_cons_succ])
    refine till_take (i := 11) (some 75) (v := ?_) rfl rfl (by kernel_rfl) (by kernel_rfl) (by kernel_rfl) (by kernel_rfl) (by kernel_rfl) (fun _ _ _ h => h) (Or.inl ⟨by rfl, ?_⟩) hS ?_
    rotate_left 1
    · ((intro W hW; have hW2 := hS0 W hW; go_simp); all_goals (with_reducible rfl))
    (try simp only [Act.put, List.setIfInBounds_toArray, List.set_cons_zero, List.set_cons_succ])
    refine till_take (i := 15) (some 79) (v := ?_) rfl rfl (by kernel_rfl) (by kernel_rfl) (by kernel_rfl) (by kernel_rfl) (by kernel_rfl) (fun _ _ _ h => h) (Or.inl ⟨by rfl, ?_⟩) hS ?_
    rotate_left 1
    · ((intro W hW; have hW2 := hS0 W hW; go_simp); all_goals (with_reducible rfl))
    (try simp only [Act.put, List.setIfInBounds_toArray, List.set_cons_zero, List.set_cons_succ])
    refine wpTill_call (c := 16) (by kernel_rfl) (by kernel_rfl) (AllReady.cons rfl (fun K hK => ?_) AllReady.nil)
    go_simp
    go_wp2_with (go_at_call 139; refine (HD1.out _ (Fr.drew (Fr.refl _ _))).mono ?_; rintro e w6 ⟨q1, rr1, rfl, m1, m2⟩; obtain ⟨cq1, rfl⟩ := m1.slice; have M1 := Aside0.mk m1; have M2 := Aside0.mk m2; have x1' := m2.cellv (show w5.drew.cell? _ = _ from x1) (fun h => HR.out.2.2.2.2.2.1 h); have f1' := (m2.frozen (p := ⟨z, 1, none⟩) (show z < w5.heap.size from R5.lt) (fun h => HR.out.2.2.2.2.2.1 h)).trans f1; clear m1 m2)
    refine any_take (i := 17) (some 63) (v := ?_) rfl rfl (by kernel_rfl) (by kernel_rfl) (by kernel_rfl) (fun _ _ _ h => h) (Or.inl ⟨by rfl, ?_⟩) ?_
    rotate_left 1
    · ((intro W; go_simp); all_goals (with_reducible rfl))
    (try simp only [Act.put, List.setIfInBounds_toArray, List.set_cons_zero, List.set_cons_succ])
    refine any_take (i := 18) (some 81) (v := ?_) rfl rfl (by kernel_rfl) (by kernel_rfl) (by kernel_rfl) (fun _ _ _ h => h) (Or.inl ⟨by rfl, ?_⟩) ?_
    rotate_left 1
    · ((intro W; go_simp); all_goals (with_reducible rfl))
    (try simp only [Act.put, List.setIfInBounds_toArray, List.set_cons_zero, List.set_cons_succ])
    refine any_take (i := 19) (some 82) (v := ?_) rfl rfl (by kernel_rfl) (by kernel_rfl) (by kernel_rfl) (fun _ _ _ h => h) (Or.inl ⟨by rfl, ?_⟩) ?_
    rotate_left 1
    · ((intro W; go_simp); all_goals (with_reducible rfl))
    (try simp only [Act.put, List.setIfInBounds_toArray, List.set_cons_zero, List.set_cons_succ])
    refine any_take (i := 20) (some 83) (v := ?_) rfl rfl (by kernel_rfl) (by kernel_rfl) (by kernel_rfl) (fun _ _ _ h => h) (Or.inl ⟨by rfl, ?_⟩) ?_
    rotate_left 1
    · ((intro W; go_simp); all_goals (with_reducible rfl))
    (try simp only [Act.put, List.setIfInBounds_toArray, List.set_cons_zero, List.set_cons_succ])
    refine any_take (i := 21) (some 84) (v := ?_) rfl rfl (by kernel_rfl) (by kernel_rfl) (by kernel_rfl) (fun _ _ _ h => h) (Or.inl ⟨by rfl, ?_⟩) ?_
    rotate_left 1
    · ((intro W; go_simp); all_goals (with_reducible rfl))
    (try simp only [Act.put, List.setIfInBounds_toArray, List.set_cons_zero, List.set_cons_succ])
    refine any_take (i := 22) (some 85) (v := ?_) rfl rfl (by kernel_rfl) (by kernel_rfl) (by kernel_rfl) (fun _ _ _ h => h) (Or.inl ⟨by rfl, ?_⟩) ?_
    rotate_left 1
    · ((intro W; go_simp); all_goals (with_reducible rfl))
    (try simp only [Act.put, List.setIfInBounds_toArray, List.set_cons_zero, List.set_cons_succ])
    refine wpAny_ready (rs := [23]) (by kernel_rfl) (by simp) (AllReady.cons rfl (fun K hK => ?_) AllReady.nil)
    go_simp
    refine hK _ _ ?_
    clear hK K
    refine wpAny_done (by kernel_rfl) ?_ _
    clear hS hS0 S
    refine NoPanic.normal ?_
    obtain ⟨W7, hW7⟩ : ∃ W7, W7 = w6.setCell ⟨z, 1, none⟩ (.slice (some ⟨g1, 0, none⟩) (lits 18446744073709551616 (N / Nat.gcd N D)).length cq1) := ⟨_, rfl⟩
    rw [← hW7]
    have HW7 : Aside0 ((Rz W7 z (.slice (some ⟨g1, 0, none⟩) (lits 18446744073709551616 (N / Nat.gcd N D)).length cq1) (.slice (some ⟨g2, 0, none⟩) (lits 18446744073709551616 D).length cv) ∧
        NW W7 g1 (.slice (some ⟨g1, 0, none⟩) (lits 18446744073709551616 (N / Nat.gcd N D)).length cq1) (N / Nat.gcd N D) ∧ NW W7 g2 (.slice (some ⟨g2, 0, none⟩) (lits 18446744073709551616 D).length cv) D) ∧
        Iz W7 W.heap.size (.slice (some ⟨g3, 0, none⟩) 1 c3) ∧ NW W7 g3 (.slice (some ⟨g3, 0, none⟩) 1 c3) (Nat.gcd N D) ∧ W7.cell? ⟨w.heap.size, 0, none⟩ = some (.pointer none) ∧ Fr (fun k => k = z ∨ k = g1) w5 W7) := by
      obtain ⟨r1, r2, r3, r4, r5, r6, r7⟩ := HR.out
      have b1 := r1.lt
      have b2 := r2.lt
      have b3 := r3.lt
      have b4 := HZ.out.lt
      have b5 := HU.out.lt
      have b6 := K1.out.2.2
      simp at b6
      have m2 := (Fr.drew (Fr.refl (fun k => k = g1) w5)).trans M2.out
      have F7 : Fr (fun k => k = z) w6 W7 := by rw [hW7]; exact fr_put1 (S := fun k => k = z) (Fr.refl _ _) rfl 1 _
      have hg := HC.out.2.2.2.2.2.2
      refine ⟨⟨?_, M1.out.far F7 (fun h => r6 h.symm), ((r3.far F5.out (fun h => h)).far m2 (fun h => hg h.symm)).far F7 (fun h => r7 h.symm)⟩, (I5.far m2 (by show ¬ W.heap.size = g1; omega)).far F7 (by show ¬ W.heap.size = z; omega), ((K1.out.2.1.far FK.out (fun h => h)).far m2 (by show ¬ g3 = g1; omega)).far F7 (by show ¬ g3 = z; omega), ?_, (m2.mono (fun k hk => Or.inr hk)).trans (F7.mono (fun k hk => Or.inl hk))⟩
      · rw [hW7]
        exact (R5.far m2 (fun h => r6 h)).set1 _
      · exact ((r4 |> fun h => (F5.out.cellv h (fun h => h))) |> fun h => m2.cellv h (by show ¬ w.heap.size = g1; omega)) |> fun h => F7.cellv h (by show ¬ w.heap.size = z; omega)
    have R7 := HW7.out.1.1
    have x3' := R7.c3
    have f3' := R7.f 3
    have y0' := R7.f 0
    have z0' := R7.c0
    have i1' := HW7.out.2.1.c1
    rw [HLN.out.2] at x3'
    have HD2 : Aside0 (∀ W', Fr (fun _ => False) W7 W' → Calls Tryz.prog 139 #[.slice (some ⟨g2, 0, none⟩) lD cv, .pointer (some ⟨w.heap.size, 0, none⟩), .slice none 0 0, .slice (some ⟨g2, 0, none⟩) lD cv, .slice (some ⟨g3, 0, none⟩) 1 c3] W' fun e w' => ∃ q r, e = .returned (.tuple #[q, r]) ∧ NW w' g2 q (D / Nat.gcd N D) ∧ Fr (fun k => k = g2) W' w') :=
      ⟨fun W' h => by
        have hu := HW7.out.1.2.2.far h (fun h => h)
        rw [HLN.out.2] at hu
        exact div_self D g2 g3 (Nat.gcd N D) _ _ _ W' hu HC.out.2.1 HC.out.2.2.2.1 (HW7.out.2.2.1.far h (fun h => h)) hG.out G0.out.2⟩
    clear hW7 x1 f1 x3 f3 i1 R5 R7 I5 z0 y0 x1' f1' HD1
    go_upto_region 13 with fail
    refine wp_region_noPanic ?_
    obtain ⟨S, hS, hS0⟩ : ∃ S : World → Prop, S W7.drew ∧ ∀ W', S W' → W'.cell? ⟨z, 3, none⟩ = some (.slice (some ⟨g2, 0, none⟩) lD cv) ∧ W'.cell? ⟨W.heap.size, 1, none⟩ = some (.slice (some ⟨g3, 0, none⟩) 1 c3) := ⟨_, ⟨x3', i1'⟩, fun _ h => h⟩
    refine wp_region_till S 16 (by kernel_rfl) ?_
    refine till_free (i := 0) (some 87) (v := ?_) rfl rfl (by kernel_rfl) (by kernel_rfl) (by kernel_rfl) (by decide) (fun _ _ _ h => h) (Or.inl ⟨by rfl, ?_⟩) hS ?_
    rotate_left 1
    · ((intro W; go_simp); all_goals (with_reducible rfl))
    (try simp only [Act.put, List.setIfInBounds_toArray, List.set_cons_zero, List.set_cons_succ])
    refine till_free (i := 1) (some 88) (v := ?_) rfl rfl (by kernel_rfl) (by kernel_rfl) (by kernel_rfl) (by decide) (fun _ _ _ h => h) (Or.inl ⟨by rfl, ?_⟩) hS ?_
    rotate_left 1
    · ((intro W; go_simp); all_goals (with_reducible rfl))
    (try simp only [Act.put, List.setIfInBounds_toArray, List.set_cons_zero, List.set_cons_succ])
    refine till_free (i := 2) (some 89) (v := ?_) rfl rfl (by kernel_rfl) (by kernel_rfl) (by kernel_rfl) (by decide) (fun _ _ _ h => h) (Or.inl ⟨by rfl, ?_⟩) hS ?_
    rotate_left 1
    · ((intro W; go_simp); all_goals (with_reducible rfl))
    (try simp only [Act.put, List.setIfInBounds_toArray, List.set_cons_zero, List.set_cons_succ])
    refine till_free (i := 3) (some 90) (v := ?_) rfl rfl (by kernel_rfl) (by kernel_rfl) (by kernel_rfl) (by decide) (fun _ _ _ h => h) (Or.inl ⟨by rfl, ?_⟩) hS ?_
    rotate_left 1
    · ((intro W; go_simp); all_goals (with_reducible rfl))
    (try simp only [Act.put, List.setIfInBounds_toArray, List.set_cons_zero, List.set_cons_succ])
    refine till_free (i := 4) (some 91) (v := ?_) rfl rfl (by kernel_rfl) (by kernel_rfl) (by kernel_rfl) (by decide) (fun _ _ _ h => h) (Or.inl ⟨by rfl, ?_⟩) hS ?_
    rotate_left 1
    · ((intro W; go_simp); all_goals (with_reducible rfl))
    (try simp only [Act.put, List.setIfInBounds_toArray, List.set_cons_zero, List.set_cons_succ])
    refine till_free (i := 6) (some 93) (v := ?_) rfl rfl (by kernel_rfl) (by kernel_rfl) (by kernel_rfl) (by decide) (fun _ _ _ h => h) (Or.inl ⟨by rfl, ?_⟩) hS ?_
    rotate_left 1
    · ((intro W; go_simp); all_goals (with_reducible rfl))
    (try simp only [Act.put, List.setIfInBounds_toArray, List.set_cons_zero, List.set_cons_succ])
    refine till_free (i := 7) (some 94) (v := ?_) rfl rfl (by kernel_rfl) (by kernel_rfl) (by kernel_rfl) (by decide) (fun _ _ _ h => h) (Or.inl ⟨by rfl, ?_⟩) hS ?_
    rotate_left 1
    · ((intro W; go_simp); all_goals (with_reducible rfl))
    (try simp only [Act.put, List.setIfInBounds_toArray, List.set_cons_zero, List.set_cons_succ])
    refine till_free (i := 8) (some 95) (v := ?_) rfl rfl (by kernel_rfl) (by kernel_rfl) (by kernel_rfl) (by decide) (fun _ _ _ h => h) (Or.inl ⟨by rfl, ?_⟩) hS ?_
    rotate_left 1
    · ((intro W; go_simp); all_goals (with_reducible rfl))
    (try simp only [Act.put, List.setIfInBounds_toArray, List.set_cons_zero, List.set_cons_succ])
    refine till_free (i := 9) (some 96) (v := ?_) rfl rfl (by kernel_rfl) (by kernel_rfl) (by kernel_rfl) (by decide) (fun _ _ _ h => h) (Or.inl ⟨by rfl, ?_⟩) hS ?_
    rotate_left 1
    · ((intro W; go_simp); all_goals (with_reducible rfl))
    (try simp only [Act.put, List.setIfInBounds_toArray, List.set_cons_zero, List.set_cons_succ])
    refine till_free (i := 10) (some 97) (v := ?_) rfl rfl (by kernel_rfl) (by kernel_rfl) (by kernel_rfl) (by decide) (fun _ _ _ h => h) (Or.inl ⟨by rfl, ?_⟩) hS ?_
    rotate_left 1
    · ((intro W; go_simp); all_goals (with_reducible rfl))
    (try simp only [Act.put, List.setIfInBounds_toArray, List.set_cons_zero, List.set_cons_succ])
    refine till_free (i := 12) (some 99) (v := ?_) rfl rfl (by kernel_rfl) (by kernel_rfl) (by kernel_rfl) (by decide) (fun _ _ _ h => h) (Or.inl ⟨by rfl, ?_⟩) hS ?_
    rotate_left 1
    · ((intro W; go_simp); all_goals (with_reducible rfl))
    (try simp only [Act.put, List.setIfInBounds_toArray, List.set_cons_zero, List.set_cons_succ])
    refine till_free (i := 13) (some 100) (v := ?_) rfl rfl (by kernel_rfl) (by kernel_rfl) (by kernel_rfl) (by decide) (fun _ _ _ h => h) (Or.inl ⟨by rfl, ?_⟩) hS ?_
    rotate_left 1
    · ((intro W; go_simp); all_goals (with_reducible rfl))
    (try simp only [Act.put, List.setIfInBounds_toArray, List.set_cons_zero, List.set_cons_succ])
    refine till_free (i := 14) (some 101) (v := ?_) rfl rfl (by kernel_rfl) (by kernel_rfl) (by kernel_rfl) (by decide) (fun _ _ _ h => h) (Or.inl ⟨by rfl, ?_⟩) hS ?_
    rotate_left 1
    · ((intro W; go_simp); all_goals (with_reducible rfl))
    (try simp only [Act.put, List.setIfInBounds_toArray, List.set_cons_zero, List.set_cons_succ])
    refine till_take (i := 5) (some 92) (v := ?_) rfl rfl (by kernel_rfl) (by kernel_rfl) (by kernel_rfl) (by kernel_rfl) (by kernel_rfl) (fun _ _ _ h => h) (Or.inl ⟨by rfl, ?_⟩) hS ?_
    rotate_left 1
    · ((intro W hW; have hW2 := hS0 W hW; go_simp); all_goals (with_reducible rfl))
    (try simp only [Act.put, List.setIfInBounds_toArray, List.set_cons_zero, List.set_cons_succ])
    refine till_take (i := 11) (some 98) (v := ?_) rfl rfl (by kernel_rfl) (by kernel_rfl) (by kernel_rfl) (by kernel_rfl) (by kernel_rfl) (fun _ _ _ h => h) (Or.inl ⟨by rfl, ?_⟩) hS ?_
    rotate_left 1
    · ((intro W hW; have hW2 := hS0 W hW; go_simp); all_goals (with_reducible rfl))
    (try simp only [Act.put, List.setIfInBounds_toArray, List.set_cons_zero, List.set_cons_succ])
    refine till_take (i := 15) (some 102) (v := ?_) rfl rfl (by kernel_rfl) (by kernel_rfl) (by kernel_rfl) (by kernel_rfl) (by kernel_rfl) (fun _ _ _ h => h) (Or.inl ⟨by rfl, ?_⟩) hS ?_
    rotate_left 1
    · ((intro W hW; have hW2 := hS0 W hW; go_simp); all_goals (with_reducible rfl))
    (try simp only [Act.put, List.setIfInBounds_toArray, List.set_cons_zero, List.set_cons_succ])
    refine wpTill_call (c := 16) (by kernel_rfl) (by kernel_rfl) (AllReady.cons rfl (fun K hK => ?_) AllReady.nil)
    go_simp
    go_wp2_with (go_at_call 139; refine (HD2.out _ (Fr.drew (Fr.refl _ _))).mono ?_; rintro e w8 ⟨q2, rr2, rfl, m1, m2⟩; obtain ⟨cq2, rfl⟩ := m1.slice; have M3 := Aside0.mk m1; have M4 := Aside0.mk m2; have x3' := m2.cellv (show W7.drew.cell? _ = _ from x3') (fun h => HR.out.2.2.2.2.2.2 h); have f3' := (m2.frozen (p := ⟨z, 3, none⟩) (show z < W7.heap.size from HW7.out.1.1.lt) (fun h => HR.out.2.2.2.2.2.2 h)).trans f3'; have z0' := m2.cellv (show W7.drew.cell? _ = _ from z0') (fun h => HR.out.2.2.2.2.2.2 h); have y0' := (m2.frozen (p := ⟨z, 0, none⟩) (show z < W7.heap.size from HW7.out.1.1.lt) (fun h => HR.out.2.2.2.2.2.2 h)).trans y0'; clear m1 m2)
    refine any_take (i := 17) (some 86) (v := ?_) rfl rfl (by kernel_rfl) (by kernel_rfl) (by kernel_rfl) (fun _ _ _ h => h) (Or.inl ⟨by rfl, ?_⟩) ?_
    rotate_left 1
    · ((intro W; go_simp); all_goals (with_reducible rfl))
    (try simp only [Act.put, List.setIfInBounds_toArray, List.set_cons_zero, List.set_cons_succ])
    refine any_take (i := 18) (some 104) (v := ?_) rfl rfl (by kernel_rfl) (by kernel_rfl) (by kernel_rfl) (fun _ _ _ h => h) (Or.inl ⟨by rfl, ?_⟩) ?_
    rotate_left 1
    · ((intro W; go_simp); all_goals (with_reducible rfl))
    (try simp only [Act.put, List.setIfInBounds_toArray, List.set_cons_zero, List.set_cons_succ])
    refine any_take (i := 19) (some 105) (v := ?_) rfl rfl (by kernel_rfl) (by kernel_rfl) (by kernel_rfl) (fun _ _ _ h => h) (Or.inl ⟨by rfl, ?_⟩) ?_
    rotate_left 1
    · ((intro W; go_simp); all_goals (with_reducible rfl))
    (try simp only [Act.put, List.setIfInBounds_toArray, List.set_cons_zero, List.set_cons_succ])
    refine any_take (i := 20) (some 106) (v := ?_) rfl rfl (by kernel_rfl) (by kernel_rfl) (by kernel_rfl) (fun _ _ _ h => h) (Or.inl ⟨by rfl, ?_⟩) ?_
    rotate_left 1
    · ((intro W; go_simp); all_goals (with_reducible rfl))
    (try simp only [Act.put, List.setIfInBounds_toArray, List.set_cons_zero, List.set_cons_succ])
    refine any_take (i := 21) (some 107) (v := ?_) rfl rfl (by kernel_rfl) (by kernel_rfl) (by kernel_rfl) (fun _ _ _ h => h) (Or.inl ⟨by rfl, ?_⟩) ?_
    rotate_left 1
    · ((intro W; go_simp); all_goals (with_reducible rfl))
    (try simp only [Act.put, List.setIfInBounds_toArray, List.set_cons_zero, List.set_cons_succ])
    refine any_take (i := 22) (some 108) (v := ?_) rfl rfl (by kernel_rfl) (by kernel_rfl) (by kernel_rfl) (fun _ _ _ h => h) (Or.inl ⟨by rfl, ?_⟩) ?_
    rotate_left 1
    · ((intro W; go_simp); all_goals (with_reducible rfl))
    (try simp only [Act.put, List.setIfInBounds_toArray, List.set_cons_zero, List.set_cons_succ])
    refine wpAny_ready (rs := [23]) (by kernel_rfl) (by simp) (AllReady.cons rfl (fun K hK => ?_) AllReady.nil)
    go_simp
    refine hK _ _ ?_
    clear hK K
    refine wpAny_done (by kernel_rfl) ?_ _
    clear hS hS0 S
    refine NoPanic.normal ?_
    go_wp2_with fail
    obtain ⟨r1, r2, r3, r4, r5, r6, r7⟩ := HR.out
    obtain ⟨⟨s1, s2, s3⟩, s4, s5, s6, s7⟩ := HW7.out
    have m4 := (Fr.drew (Fr.refl (fun k => k = g2) W7)).trans M4.out
    have F9 := fr_put1 (S := fun k => k = z) (fr_put1 (S := fun k => k = z) (Fr.refl _ w8) rfl 3 (.slice (some ⟨g2, 0, none⟩) (lits 18446744073709551616 (D / Nat.gcd N D)).length cq2)) rfl 0 (.bool false)
    have b4 := HZ.out.lt
    have b5 := HV.out.lt
    have hst := F9.cellv (m4.cellv s6 (by show ¬ w.heap.size = g2; omega)) (by show ¬ w.heap.size = z; omega)
    refine leaves_cons (f := 114) (args := #[.pointer (some ⟨w.heap.size, 0, none⟩)]) (by simp) (enters_of Tryz.func114 (by kernel_rfl) rfl _ _) ?_
    refine (free_d _ _ _ hst).mono ?_
    rintro e u' w'' ⟨rfl, rfl, rfl⟩
    refine ⟨_, results_tmp rfl _ _ _, ?_⟩
    have hg := HC.out.2.2.2.2.2.2
    have R8 : Rz w8 z _ _ := s1.far m4 (fun h => r7 h)
    exact ⟨_, _, rfl, (R8.set3 _).set0, (s2.far m4 (fun h => hg h)).far F9 (fun h => r6 h.symm), M3.out.far F9 (fun h => r7 h.symm),
      (HF.out.mono (fun k hk => Or.inl hk)).trans ((F5.out.mono (fun _ h => h.elim)).trans ((s7.mono (fun k hk => hk.elim Or.inl (fun h => Or.inr (Or.inl h)))).trans ((m4.mono (fun k hk => Or.inr (Or.inr hk))).trans (F9.mono (fun k hk => Or.inl hk)))))⟩
end Go.Proofs.YtgpoplfgngiilaaGreatDoor
