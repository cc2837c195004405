/- FnLiteralHexFloat, behind its card (K6z). -/
import Derived.Test.YtgpoplfgngiilaaGreatDoorR29
import Derived.Deep.RegionHeld3
set_option linter.unusedVariables false
set_option linter.unusedSimpArgs false
namespace Go.Proofs.YtgpoplfgngiilaaGreatDoor
set_option linter.unusedVariables false
set_option linter.unusedSimpArgs false
open Go.RowKit Go.Proofs.YtgpoplfgngiilaaGreatDoorW.PrintWords

set_option maxHeartbeats 8000000 in
set_option maxRecDepth 1000000 in
theorem rat_set_z (s : ByteArray) (m L : Nat) (x : Int) (te : TypeId) (pe : Value) (hF : ScansF s m L 16 0 te pe) (hE : ScansE s L x 2 te pe) (hi : 0 < s.size) (hs : s.size ≤ 1000) (h43 : (s[0]'hi).toNat ≠ 43) (h45 : (s[0]'hi).toNat ≠ 45) (h47 : ∀ (j : Nat) (hj : j < s.size), (s[j]'hj).toNat ≠ 47)
    (hm0 : 0 < m) (hm : m < 18446744073709551616) (hx1 : -1000 ≤ x) (hx2 : x ≤ 1000)
    (hq2 : ∀ W, (binOp .neq 85 (.iface te pe) (.iface te pe)).run Tryz.prog W = .ok (.bool false) W)
    (z : Nat) (w : World) (hz1 : z ≠ 1) (hz : Rz w z (.slice none 0 0) (.slice none 0 0)) (hv : w.cell? ⟨1, 0, none⟩ = some (.iface te pe)) :
    Calls Tryz.prog 73 #[.pointer (some ⟨z, 0, none⟩), .string s] w (RatRes (m * 2 ^ up (x + 4 * 0)) (2 ^ dn (x + 4 * 0)) z w) := by
  have h1 := World.block_lt_of_cell? w _ hv
  have HZZ := Aside0.mk (fun W => zz_calls s hs h47 W)
  have HSC := Aside0.mk hF
  have HSE := Aside0.mk hE
  have HSS := Aside0.mk (fun r W hr => scanSign_none r s hi (by omega) h43 h45 W hr)
  have HGS := Aside0.mk get_stack
  have HGN := Aside0.mk (fun g r (v : Value) W i (h1 : NW W g v m) (h2 : Rd W r s i) => h1.neRd h2)
  have HL := Aside0.mk (show z < w.heap.size ∧ 1 < w.heap.size ∧ z ≠ w.heap.size ∧ w.heap.size ≠ 1 ∧ z ≠ 1 from ⟨hz.lt, h1, Nat.ne_of_lt hz.lt, Nat.ne_of_gt h1, hz1⟩)
  have HZ := Aside0.mk (And.intro hz hv)
  have HM := Aside0.mk (And.intro hm0 hm)
  have HM1 := Aside0.mk (show (lits 18446744073709551616 m).length = 1 by rw [wl_one hm0 hm]; rfl)
  have hsp : ((s.size : Int) == 0) = false := beq_false_of_ne (by omega)
  clear hz hv h1 hF hE h43 h45 h47 hm0 hm hz1
  go_enter_defers Tryz.func73, Tryz.ntmps73
  go_upto_region 59 with (first
    | (go_at_call 108; go_must (refine (HZZ.out _).mono ?_); rintro e w1 ⟨rfl, nd, rfl⟩)
    | (go_at_call 67; go_must (refine (new_reader s w.heap.size (w.drewN nd) rfl).mono ?_); rintro e w2 ⟨rfl, hr2, hf2⟩; have HR0 := Aside0.mk (show RSt s w.heap.size 0 z (.slice none 0 0) (.slice none 0 0) te pe w w2 from ⟨HZ.out.1.far (((Fr.refl (fun _ => False) w).drewN nd).trans hf2) (fun h => h), hr2, (((Fr.refl (fun _ => False) w).drewN nd).trans hf2).cellv HZ.out.2 (fun h => h), (((Fr.refl (fun _ => False) w).drewN nd).trans hf2).mono (fun _ h => h.elim)⟩); clear hr2 hf2)
    | (go_at_call 111; go_must (refine (HSS.out w.heap.size _ HR0.out.2.1).mono ?_); rintro e w3 ⟨rfl, hr3, hf3⟩; have HR1 := Aside0.mk (HR0.out.call HL.out.2.2.1 HL.out.2.2.2.1 hf3 hr3); clear hr3 hf3; have z1 := HR1.out.1.c1)
    | (go_at_call 109; go_must (refine (HSC.out w.heap.size _ HR1.out.2.1 HR1.out.2.2.1 HL.out.2.2.2.1).mono ?_); rintro e w4 ⟨u, rfl, hn4, hr4, hf4⟩; obtain ⟨g1, hg1, hw4⟩ := hn4.toNW HM.out.1; obtain ⟨c1, rfl⟩ := hw4.slice; rw [show (lits 18446744073709551616 m).length = 1 from HM1.out] at hw4 ⊢; have HW4 := Aside0.mk hw4; have HG1 := Aside0.mk (Nat.le_trans HR1.out.2.2.2.size hg1); have HR2 := Aside0.mk (HR1.out.call HL.out.2.2.1 HL.out.2.2.2.1 hf4 hr4); have HR3 := Aside0.mk (HR2.out.put1 HL.out.2.2.1 HL.out.2.2.2.2 (.slice (some ⟨g1, 0, none⟩) 1 c1)); clear hn4 hg1 hw4 hr4 hf4 z1; have z1 := HR2.out.1.c1; have f1 := HR2.out.1.f 1)
    | (go_at_call 112; go_must (refine (HSE.out w.heap.size _ HR3.out.2.1 HR3.out.2.2.1 HL.out.2.2.2.1).mono ?_); rintro e w5 ⟨rfl, hr5, hf5⟩; have HR4 := Aside0.mk (HR3.out.call HL.out.2.2.1 HL.out.2.2.2.1 hf5 hr5); have HW5 := Aside0.mk ((HW4.out.far (fr_put1 (S := fun k => k = z) (Fr.refl _ w4) rfl 1 (.slice (some ⟨g1, 0, none⟩) 1 c1)) (by have := HL.out.1; have := HG1.out; show ¬ g1 = z; omega)).far hf5 (by have := HW4.out.lt; have h7 := HR2.out.2.1.lt; show ¬ g1 = w.heap.size; exact HGN.out g1 _ _ _ _ HW4.out HR2.out.2.1)); clear hr5 hf5 z1 f1)
    | (go_at_call 110; go_must (refine (readByte_end w.heap.size s s.size (Nat.le_refl _) _ (.iface te pe) HR4.out.2.1 HR4.out.2.2.1).mono ?_); rintro e w6 ⟨rfl, hr6, hf6⟩; have HR5 := Aside0.mk (HR4.out.call HL.out.2.2.1 HL.out.2.2.2.1 hf6 hr6); have HW6 := Aside0.mk (HW5.out.far hf6 (HGN.out g1 _ _ _ _ HW5.out HR4.out.2.1)); clear hr6 hf6; have z1 := HR5.out.1.c1; have d1 := HR5.out.2.2.1)
    | (go_at_call 113; go_must (refine (HGS.out _).mono ?_); rintro e w7 ⟨rfl, rfl⟩))
  obtain ⟨W, hW⟩ : ∃ W, W = w6.alloc (.cells #[.pointer none] 244) := ⟨_, rfl⟩
  rw [← hW]
  have FW : Fr (fun _ => False) w6 W := by rw [hW]; exact (Fr.refl _ _).alloc _
  have RW := HR5.out.call0 FW
  have UW := HW6.out.far FW (fun h => h)
  have st : W.cell? ⟨w6.heap.size, 0, none⟩ = some (.pointer none) := by rw [hW]; exact Go.Proofs.YtgpoplfgngiilaaGreatDoorW.PrintWords.blk_cell (heap_alloc_new w6 _) 0
  have sz : w6.heap.size < W.heap.size := by rw [hW]; simp
  have HQ := Aside0.mk (And.intro RW (And.intro UW (And.intro st sz)))
  clear hW FW RW UW st sz z1 d1
  have z3 := HQ.out.1.1.c3
  go_upto_region 73 with (go_at_call 117; go_must (refine (setWord_one W W (Fr.refl _ _)).mono ?_); rintro e w8 ⟨v1, g2, rfl, hg2, h1, h2⟩; obtain ⟨cv, rfl⟩ := h1.slice; rw [show (lits 18446744073709551616 1).length = 1 by rw [wl_one (by decide) (by decide)]; rfl] at h1 ⊢; have HV8 := Aside0.mk h1; have HG2 := Aside0.mk hg2; have HB8 := Aside0.mk (Fr.of_below (S := fun _ => False) h2); have z3' := HB8.out.cellv HQ.out.1.1.c3 (fun h => h); have f3' := (HB8.out.frozen (p := ⟨z, 3, none⟩) HQ.out.1.1.lt (fun h => h)).trans (HQ.out.1.1.f 3); clear h1 h2 hg2)
  obtain ⟨W2, hW2⟩ : ∃ W2, W2 = w8.setCell ⟨z, 3, none⟩ (.slice (some ⟨g2, 0, none⟩) 1 cv) := ⟨_, rfl⟩
  rw [← hW2]
  have HK := Aside0.mk (show RatSt z w6.heap.size g1 g2 m 1 (.slice (some ⟨g1, 0, none⟩) 1 c1) (.slice (some ⟨g2, 0, none⟩) 1 cv) w W2 from by
    have F2 : Fr (fun k => k = z) w8 W2 := by rw [hW2]; exact fr_put1 (S := fun k => k = z) (Fr.refl _ _) rfl 3 _
    have FW2 : Fr (fun k => k = z) W W2 := (HB8.out.mono (fun _ h => h.elim)).trans F2
    obtain ⟨q1, q2, q3, q4⟩ := HQ.out
    have b1 := HL.out.1
    have b2 := HG1.out
    have b3 := HW6.out.lt
    have b4 := HG2.out
    have b5 := HR5.out.2.2.2.size
    refine ⟨by rw [hW2]; exact (q1.1.far HB8.out (fun h => h)).set3 _, q2.far FW2 (by show ¬ g1 = z; omega), HV8.out.far F2 (by show ¬ g2 = z; omega), FW2.cellv q3 (by show ¬ w6.heap.size = z; omega), ?_, by omega, by omega, by omega, by omega, by omega, by omega⟩
    have F := q1.2.2.2.trans (FW2.mono (S' := fun k => k = w.heap.size ∨ k = z) (fun k hk => Or.inr hk))
    exact ⟨F.os, F.tape, F.output, F.size, fun k hk hn => F.block k hk (fun h => h.elim (fun h => by omega) hn)⟩)
  clear hW2 z3 z3' f3'
  have ky : -2000 ≤ x ∧ x ≤ 2000 := by omega
  rcases Int.lt_trichotomy 0 (x) with hy | hy | hy
  · have hb1 : decide (x > 0) = true := by simp; omega
    have hb2 : decide (x < 0) = false := by simp; omega
    have hb3 : decide (x < -10000000) = false := by simp; omega
    have hb4 : decide (x > 10000000) = false := by simp; omega
    have eN : m * 2 ^ up (x + 4 * 0) = m * 2 ^ (x).toNat := by rw [show up (x + 4 * 0) = (x).toNat by unfold up; omega]
    have eD : 2 ^ dn (x + 4 * 0) = 1 := by rw [show dn (x + 4 * 0) = 0 by unfold dn; omega]
    have HE2 := Aside0.mk (And.intro eN eD)
    have HSD := Aside0.mk (side_ok (N := (m * 2 ^ (x).toNat)) (D := 1) (by rw [← eN]; exact Nat.mul_pos HM.out.1 (Nat.pow_pos (by decide))) (by rw [← eD]; exact Nat.pow_pos (by decide)) (Or.inr (by decide)) (by rw [← eN]; exact few_mul HM.out.2 (by unfold up; omega)) (by rw [← eD]; exact few_pow (by unfold dn; omega)))
    have hle : x ≤ 5000 := by omega
    have HLS := Aside0.mk (fun W' (h : Fr (fun _ => False) W2 W') => lsh_int g1 m (x) _ W' (HK.out.2.1.far h (fun h => h)) HM.out.1 HM.out.2 hy hle)
    have hwr : IntKind.u64.wrap (x) = x := wraps_u64 _ (by omega) (by omega)
    clear eN eD
    have x1 := HK.out.1.c1
    go_upto_region 76 with fail
    refine wp_region_noPanic ?_
    obtain ⟨S, hS, hS0⟩ : ∃ S : World → Prop, S W2.drew ∧ ∀ W', S W' → W'.cell? ⟨z, 1, none⟩ = some (.slice (some ⟨g1, 0, none⟩) 1 c1) := ⟨_, x1, fun _ h => h⟩
    refine wp_region_till S 13 (by kernel_rfl) ?_
    refine till_free (i := 0) (some 246) (v := ?_) rfl rfl (by kernel_rfl) (by kernel_rfl) (by kernel_rfl) (by decide) (fun _ _ _ h => h) (Or.inl ⟨by rfl, ?_⟩) hS ?_
    rotate_left 1
    · ((intro W; go_simp); all_goals (with_reducible rfl))
    (try simp only [Act.put, List.setIfInBounds_toArray, List.set_cons_zero, List.set_cons_succ])
    refine till_free (i := 1) (some 247) (v := ?_) rfl rfl (by kernel_rfl) (by kernel_rfl) (by kernel_rfl) (by decide) (fun _ _ _ h => h) (Or.inl ⟨by rfl, ?_⟩) hS ?_
    rotate_left 1
    · ((intro W; go_simp); all_goals (with_reducible rfl))
    (try simp only [Act.put, List.setIfInBounds_toArray, List.set_cons_zero, List.set_cons_succ])
    refine till_free (i := 2) (some 248) (v := ?_) rfl rfl (by kernel_rfl) (by kernel_rfl) (by kernel_rfl) (by decide) (fun _ _ _ h => h) (Or.inl ⟨by rfl, ?_⟩) hS ?_
    rotate_left 1
    · ((intro W; go_simp); all_goals (with_reducible rfl))
    (try simp only [Act.put, List.setIfInBounds_toArray, List.set_cons_zero, List.set_cons_succ])
    refine till_free (i := 3) (some 249) (v := ?_) rfl rfl (by kernel_rfl) (by kernel_rfl) (by kernel_rfl) (by decide) (fun _ _ _ h => h) (Or.inl ⟨by rfl, ?_⟩) hS ?_
    rotate_left 1
    · ((intro W; go_simp); all_goals (with_reducible rfl))
    (try simp only [Act.put, List.setIfInBounds_toArray, List.set_cons_zero, List.set_cons_succ])
    refine till_free (i := 4) (some 250) (v := ?_) rfl rfl (by kernel_rfl) (by kernel_rfl) (by kernel_rfl) (by decide) (fun _ _ _ h => h) (Or.inl ⟨by rfl, ?_⟩) hS ?_
    rotate_left 1
    · ((intro W; go_simp); all_goals (with_reducible rfl))
    (try simp only [Act.put, List.setIfInBounds_toArray, List.set_cons_zero, List.set_cons_succ])
    refine till_free (i := 6) (some 252) (v := ?_) rfl rfl (by kernel_rfl) (by kernel_rfl) (by kernel_rfl) (by decide) (fun _ _ _ h => h) (Or.inl ⟨by rfl, ?_⟩) hS ?_
    rotate_left 1
    · ((intro W; go_simp); all_goals (with_reducible rfl))
    (try simp only [Act.put, List.setIfInBounds_toArray, List.set_cons_zero, List.set_cons_succ])
    refine till_free (i := 7) (some 253) (v := ?_) rfl rfl (by kernel_rfl) (by kernel_rfl) (by kernel_rfl) (by decide) (fun _ _ _ h => h) (Or.inl ⟨by rfl, ?_⟩) hS ?_
    rotate_left 1
    · ((intro W; go_simp); all_goals (with_reducible rfl))
    (try simp only [Act.put, List.setIfInBounds_toArray, List.set_cons_zero, List.set_cons_succ])
    refine till_free (i := 8) (some 254) (v := ?_) rfl rfl (by kernel_rfl) (by kernel_rfl) (by kernel_rfl) (by decide) (fun _ _ _ h => h) (Or.inl ⟨by rfl, ?_⟩) hS ?_
    rotate_left 1
    · ((intro W; go_simp); all_goals (with_reducible rfl))
    (try simp only [Act.put, List.setIfInBounds_toArray, List.set_cons_zero, List.set_cons_succ])
    refine till_free (i := 9) (some 255) (v := ?_) rfl rfl (by kernel_rfl) (by kernel_rfl) (by kernel_rfl) (by decide) (fun _ _ _ h => h) (Or.inl ⟨by rfl, ?_⟩) hS ?_
    rotate_left 1
    · ((intro W; go_simp); all_goals (with_reducible rfl))
    (try simp only [Act.put, List.setIfInBounds_toArray, List.set_cons_zero, List.set_cons_succ])
    refine till_free (i := 11) (some 257) (v := ?_) rfl rfl (by kernel_rfl) (by kernel_rfl) (by kernel_rfl) (by decide) (fun _ _ _ h => h) (Or.inl ⟨by rfl, ?_⟩) hS ?_
    rotate_left 1
    · ((intro W; go_simp); all_goals (with_reducible rfl))
    (try simp only [Act.put, List.setIfInBounds_toArray, List.set_cons_zero, List.set_cons_succ])
    refine till_free (i := 12) (some 258) (v := ?_) rfl rfl (by kernel_rfl) (by kernel_rfl) (by kernel_rfl) (by decide) (fun _ _ _ h => h) (Or.inl ⟨by rfl, ?_⟩) hS ?_
    rotate_left 1
    · ((intro W; go_simp); all_goals (with_reducible rfl))
    (try simp only [Act.put, List.setIfInBounds_toArray, List.set_cons_zero, List.set_cons_succ])
    refine till_take (i := 5) (some 251) (v := ?_) rfl rfl (by kernel_rfl) (by kernel_rfl) (by kernel_rfl) (by kernel_rfl) (by kernel_rfl) (fun _ _ _ h => h) (Or.inl ⟨by rfl, ?_⟩) hS ?_
    rotate_left 1
    · ((intro W hW; have hW2 := hS0 W hW; go_simp); all_goals (with_reducible rfl))
    (try simp only [Act.put, List.setIfInBounds_toArray, List.set_cons_zero, List.set_cons_succ])
    refine till_take (i := 10) (some 256) (v := ?_) rfl rfl (by kernel_rfl) (by kernel_rfl) (by kernel_rfl) (by kernel_rfl) (by kernel_rfl) (fun _ _ _ h => h) (Or.inl ⟨by rfl, ?_⟩) hS ?_
    rotate_left 1
    · ((intro W hW; have hW2 := hS0 W hW; go_simp); all_goals (with_reducible rfl))
    (try simp only [Act.put, List.setIfInBounds_toArray, List.set_cons_zero, List.set_cons_succ])
    refine wpTill_call (c := 13) (by kernel_rfl) (by kernel_rfl) (AllReady.cons rfl (fun K hK => ?_) AllReady.nil)
    go_simp
    go_wp2_with (go_at_call 93; refine (HLS.out _ (Fr.drew (Fr.refl _ _))).mono ?_; rintro e w9 ⟨v9, gz, rfl, hgz, m1, m2⟩; obtain ⟨cq, rfl⟩ := m1.slice; have M1 := Aside0.mk m1; have M2 := Aside0.mk m2; have HGZ := Aside0.mk hgz; have x1' := m2.cellv (show W2.drew.cell? _ = _ from x1) (by have := HK.out.sep; show ¬ z = g1; omega); have f1' := (m2.frozen (p := ⟨z, 1, none⟩) (show z < W2.heap.size from HK.out.1.lt) (by have := HK.out.sep; show ¬ z = g1; omega)).trans (show W2.drew.frozen? ⟨z, 1, none⟩ = false from HK.out.1.f 1); clear m1 m2 hgz)
    refine any_take (i := 14) (some 260) (v := ?_) rfl rfl (by kernel_rfl) (by kernel_rfl) (by kernel_rfl) (fun _ _ _ h => h) (Or.inl ⟨by rfl, ?_⟩) ?_
    rotate_left 1
    · ((intro W; go_simp); all_goals (with_reducible rfl))
    (try simp only [Act.put, List.setIfInBounds_toArray, List.set_cons_zero, List.set_cons_succ])
    refine any_take (i := 15) (some 261) (v := ?_) rfl rfl (by kernel_rfl) (by kernel_rfl) (by kernel_rfl) (fun _ _ _ h => h) (Or.inl ⟨by rfl, ?_⟩) ?_
    rotate_left 1
    · ((intro W; go_simp); all_goals (with_reducible rfl))
    (try simp only [Act.put, List.setIfInBounds_toArray, List.set_cons_zero, List.set_cons_succ])
    refine any_take (i := 16) (some 262) (v := ?_) rfl rfl (by kernel_rfl) (by kernel_rfl) (by kernel_rfl) (fun _ _ _ h => h) (Or.inl ⟨by rfl, ?_⟩) ?_
    rotate_left 1
    · ((intro W; go_simp); all_goals (with_reducible rfl))
    (try simp only [Act.put, List.setIfInBounds_toArray, List.set_cons_zero, List.set_cons_succ])
    refine wpAny_ready (rs := [17]) (by kernel_rfl) (by simp) (AllReady.cons rfl (fun K hK => ?_) AllReady.nil)
    go_simp
    refine hK _ _ ?_
    clear hK K
    refine wpAny_done (by kernel_rfl) ?_ _
    clear hS hS0 S
    refine NoPanic.normal ?_
    obtain ⟨W3, hW3⟩ : ∃ W3, W3 = w9.setCell ⟨z, 1, none⟩ (.slice (some ⟨gz, 0, none⟩) (lits 18446744073709551616 (m * 2 ^ (x).toNat)).length cq) := ⟨_, rfl⟩
    rw [← hW3]
    have HK3 := Aside0.mk (show RatSt z w6.heap.size gz g2 (m * 2 ^ (x).toNat) 1 (.slice (some ⟨gz, 0, none⟩) (lits 18446744073709551616 (m * 2 ^ (x).toNat)).length cq) (.slice (some ⟨g2, 0, none⟩) 1 cv) w W3 from by rw [hW3]; exact HK.out.lsh1 ((Fr.drew (Fr.refl _ _)).trans M2.out) HGZ.out M1.out)
    clear x1 x1' f1' hW3
    have y0 := HK3.out.1.c0
    have y1 := HK3.out.1.c1
    have k0 := HK3.out.1.f 0
    go_wp2_with (go_at_call 95; go_must (refine (HK3.out.fin HSD.out).mono ?_); rintro e wz ⟨u', v', rfl, h9⟩; have H9 := Aside0.mk h9; clear h9)
    refine leaves_cons (f := 114) (args := #[.pointer (some ⟨w6.heap.size, 0, none⟩)]) (by simp) (enters_of Tryz.func114 (by kernel_rfl) rfl _ _) ?_
    refine (free_d _ _ _ H9.out.2.2.2.1).mono ?_
    rintro e u'' w'' ⟨rfl, rfl, rfl⟩
    refine ⟨.tuple #[.pointer (some ⟨z, 0, none⟩), .bool true], by simp [results, Tryz.results73, go_sem], ?_⟩
    rw [HE2.out.1, HE2.out.2]
    exact ⟨u', v', _, _, rfl, H9.out.1, H9.out.2.1, H9.out.2.2.1, H9.out.2.2.2.2⟩
  · have hb1 : decide (x > 0) = false := by simp; omega
    have hb2 : decide (x < 0) = false := by simp; omega
    have hb3 : decide (x < -10000000) = false := by simp; omega
    have hb4 : decide (x > 10000000) = false := by simp; omega
    have eN : m * 2 ^ up (x + 4 * 0) = m := by rw [show up (x + 4 * 0) = 0 by unfold up; omega, Nat.pow_zero, Nat.mul_one]
    have eD : 2 ^ dn (x + 4 * 0) = 1 := by rw [show dn (x + 4 * 0) = 0 by unfold dn; omega]
    have HE2 := Aside0.mk (And.intro eN eD)
    have HSD := Aside0.mk (side_ok (N := m) (D := 1) (by rw [← eN]; exact Nat.mul_pos HM.out.1 (Nat.pow_pos (by decide))) (by rw [← eD]; exact Nat.pow_pos (by decide)) (Or.inl HM.out.2) (by rw [← eN]; exact few_mul HM.out.2 (by unfold up; omega)) (by rw [← eD]; exact few_pow (by unfold dn; omega)))
    clear eN eD hy
    have HK3 := HK
    have y0 := HK3.out.1.c0
    have y1 := HK3.out.1.c1
    have k0 := HK3.out.1.f 0
    go_wp2_with (go_at_call 95; go_must (refine (HK3.out.fin HSD.out).mono ?_); rintro e wz ⟨u', v', rfl, h9⟩; have H9 := Aside0.mk h9; clear h9)
    refine leaves_cons (f := 114) (args := #[.pointer (some ⟨w6.heap.size, 0, none⟩)]) (by simp) (enters_of Tryz.func114 (by kernel_rfl) rfl _ _) ?_
    refine (free_d _ _ _ H9.out.2.2.2.1).mono ?_
    rintro e u'' w'' ⟨rfl, rfl, rfl⟩
    refine ⟨.tuple #[.pointer (some ⟨z, 0, none⟩), .bool true], by simp [results, Tryz.results73, go_sem], ?_⟩
    rw [HE2.out.1, HE2.out.2]
    exact ⟨u', v', _, _, rfl, H9.out.1, H9.out.2.1, H9.out.2.2.1, H9.out.2.2.2.2⟩
  · have hb1 : decide (x > 0) = false := by simp; omega
    have hb2 : decide (x < 0) = true := by simp; omega
    have hb3 : decide (x < -10000000) = false := by simp; omega
    have hb4 : decide (x > 10000000) = false := by simp; omega
    have eN : m * 2 ^ up (x + 4 * 0) = m := by rw [show up (x + 4 * 0) = 0 by unfold up; omega, Nat.pow_zero, Nat.mul_one]
    have eD : 2 ^ dn (x + 4 * 0) = 2 ^ (-(x)).toNat := by rw [show dn (x + 4 * 0) = (-(x)).toNat by unfold dn; omega]
    have HE2 := Aside0.mk (And.intro eN eD)
    have HSD := Aside0.mk (side_ok (N := m) (D := (2 ^ (-(x)).toNat)) (by rw [← eN]; exact Nat.mul_pos HM.out.1 (Nat.pow_pos (by decide))) (by rw [← eD]; exact Nat.pow_pos (by decide)) (Or.inl HM.out.2) (by rw [← eN]; exact few_mul HM.out.2 (by unfold up; omega)) (by rw [← eD]; exact few_pow (by unfold dn; omega)))
    have hle : -(x) ≤ 5000 := by omega
    have hy3 : 0 < -(x) := by omega
    have HLS := Aside0.mk (fun W' (h : Fr (fun _ => False) W2 W') => lsh_one g2 (-(x)) _ W' (HK.out.2.2.1.far h (fun h => h)) hy3 hle)
    have hwr : IntKind.u64.wrap (-(x)) = -(x) := wraps_u64 _ (by omega) (by omega)
    have hwi : IntKind.i64.wrap (-(x)) = -(x) := by rw [IntKind.wrap_i64]; omega
    clear eN eD
    have x1 := HK.out.1.c3
    go_upto_region 78 with fail
    refine wp_region_noPanic ?_
    obtain ⟨S, hS, hS0⟩ : ∃ S : World → Prop, S W2.drew ∧ ∀ W', S W' → W'.cell? ⟨z, 3, none⟩ = some (.slice (some ⟨g2, 0, none⟩) 1 cv) := ⟨_, x1, fun _ h => h⟩
    refine wp_region_till S 14 (by kernel_rfl) ?_
    refine till_free (i := 0) (some 265) (v := ?_) rfl rfl (by kernel_rfl) (by kernel_rfl) (by kernel_rfl) (by decide) (fun _ _ _ h => h) (Or.inl ⟨by rfl, ?_⟩) hS ?_
    rotate_left 1
    · ((intro W; go_simp); all_goals (with_reducible rfl))
    (try simp only [Act.put, List.setIfInBounds_toArray, List.set_cons_zero, List.set_cons_succ])
    refine till_free (i := 1) (some 266) (v := ?_) rfl rfl (by kernel_rfl) (by kernel_rfl) (by kernel_rfl) (by decide) (fun _ _ _ h => h) (Or.inl ⟨by rfl, ?_⟩) hS ?_
    rotate_left 1
    · ((intro W; go_simp); all_goals (with_reducible rfl))
    (try simp only [Act.put, List.setIfInBounds_toArray, List.set_cons_zero, List.set_cons_succ])
    refine till_free (i := 2) (some 267) (v := ?_) rfl rfl (by kernel_rfl) (by kernel_rfl) (by kernel_rfl) (by decide) (fun _ _ _ h => h) (Or.inl ⟨by rfl, ?_⟩) hS ?_
    rotate_left 1
    · ((intro W; go_simp); all_goals (with_reducible rfl))
    (try simp only [Act.put, List.setIfInBounds_toArray, List.set_cons_zero, List.set_cons_succ])
    refine till_free (i := 3) (some 268) (v := ?_) rfl rfl (by kernel_rfl) (by kernel_rfl) (by kernel_rfl) (by decide) (fun _ _ _ h => h) (Or.inl ⟨by rfl, ?_⟩) hS ?_
    rotate_left 1
    · ((intro W; go_simp); all_goals (with_reducible rfl))
    (try simp only [Act.put, List.setIfInBounds_toArray, List.set_cons_zero, List.set_cons_succ])
    refine till_free (i := 4) (some 269) (v := ?_) rfl rfl (by kernel_rfl) (by kernel_rfl) (by kernel_rfl) (by decide) (fun _ _ _ h => h) (Or.inl ⟨by rfl, ?_⟩) hS ?_
    rotate_left 1
    · ((intro W; go_simp); all_goals (with_reducible rfl))
    (try simp only [Act.put, List.setIfInBounds_toArray, List.set_cons_zero, List.set_cons_succ])
    refine till_free (i := 6) (some 271) (v := ?_) rfl rfl (by kernel_rfl) (by kernel_rfl) (by kernel_rfl) (by decide) (fun _ _ _ h => h) (Or.inl ⟨by rfl, ?_⟩) hS ?_
    rotate_left 1
    · ((intro W; go_simp); all_goals (with_reducible rfl))
    (try simp only [Act.put, List.setIfInBounds_toArray, List.set_cons_zero, List.set_cons_succ])
    refine till_free (i := 7) (some 272) (v := ?_) rfl rfl (by kernel_rfl) (by kernel_rfl) (by kernel_rfl) (by decide) (fun _ _ _ h => h) (Or.inl ⟨by rfl, ?_⟩) hS ?_
    rotate_left 1
    · ((intro W; go_simp); all_goals (with_reducible rfl))
    (try simp only [Act.put, List.setIfInBounds_toArray, List.set_cons_zero, List.set_cons_succ])
    refine till_free (i := 8) (some 273) (v := ?_) rfl rfl (by kernel_rfl) (by kernel_rfl) (by kernel_rfl) (by decide) (fun _ _ _ h => h) (Or.inl ⟨by rfl, ?_⟩) hS ?_
    rotate_left 1
    · ((intro W; go_simp); all_goals (with_reducible rfl))
    (try simp only [Act.put, List.setIfInBounds_toArray, List.set_cons_zero, List.set_cons_succ])
    refine till_free (i := 9) (some 274) (v := ?_) rfl rfl (by kernel_rfl) (by kernel_rfl) (by kernel_rfl) (by decide) (fun _ _ _ h => h) (Or.inl ⟨by rfl, ?_⟩) hS ?_
    rotate_left 1
    · ((intro W; go_simp); all_goals (with_reducible rfl))
    (try simp only [Act.put, List.setIfInBounds_toArray, List.set_cons_zero, List.set_cons_succ])
    refine till_free (i := 11) (some 276) (v := ?_) rfl rfl (by kernel_rfl) (by kernel_rfl) (by kernel_rfl) (by decide) (fun _ _ _ h => h) (Or.inl ⟨by rfl, ?_⟩) hS ?_
    rotate_left 1
    · ((intro W; go_simp); all_goals (with_reducible rfl))
    (try simp only [Act.put, List.setIfInBounds_toArray, List.set_cons_zero, List.set_cons_succ])
    refine till_free (i := 12) (some 277) (v := ?_) rfl rfl (by kernel_rfl) (by kernel_rfl) (by kernel_rfl) (by decide) (fun _ _ _ h => h) (Or.inl ⟨by rfl, ?_⟩) hS ?_
    rotate_left 1
    · ((intro W; go_simp); all_goals (with_reducible rfl))
    (try simp only [Act.put, List.setIfInBounds_toArray, List.set_cons_zero, List.set_cons_succ])
    refine till_free (i := 13) (some 278) (v := ?_) rfl rfl (by kernel_rfl) (by kernel_rfl) (by kernel_rfl) (by decide) (fun _ _ _ h => h) (Or.inl ⟨by rfl, ?_⟩) hS ?_
    rotate_left 1
    · ((intro W; go_simp); all_goals (with_reducible rfl))
    (try simp only [Act.put, List.setIfInBounds_toArray, List.set_cons_zero, List.set_cons_succ])
    refine till_take (i := 5) (some 270) (v := ?_) rfl rfl (by kernel_rfl) (by kernel_rfl) (by kernel_rfl) (by kernel_rfl) (by kernel_rfl) (fun _ _ _ h => h) (Or.inl ⟨by rfl, ?_⟩) hS ?_
    rotate_left 1
    · ((intro W hW; have hW2 := hS0 W hW; go_simp); all_goals (with_reducible rfl))
    (try simp only [Act.put, List.setIfInBounds_toArray, List.set_cons_zero, List.set_cons_succ])
    refine till_take (i := 10) (some 275) (v := ?_) rfl rfl (by kernel_rfl) (by kernel_rfl) (by kernel_rfl) (by kernel_rfl) (by kernel_rfl) (fun _ _ _ h => h) (Or.inl ⟨by rfl, ?_⟩) hS ?_
    rotate_left 1
    · ((intro W hW; have hW2 := hS0 W hW; go_simp); all_goals (with_reducible rfl))
    (try simp only [Act.put, List.setIfInBounds_toArray, List.set_cons_zero, List.set_cons_succ])
    refine wpTill_call (c := 14) (by kernel_rfl) (by kernel_rfl) (AllReady.cons rfl (fun K hK => ?_) AllReady.nil)
    go_simp
    go_wp2_with (go_at_call 93; refine (HLS.out _ (Fr.drew (Fr.refl _ _))).mono ?_; rintro e w9 ⟨v9, gz, rfl, hgz, m1, m2⟩; obtain ⟨cq, rfl⟩ := m1.slice; have M1 := Aside0.mk m1; have M2 := Aside0.mk m2; have HGZ := Aside0.mk hgz; have x1' := m2.cellv (show W2.drew.cell? _ = _ from x1) (by have := HK.out.sep; show ¬ z = g2; omega); have f1' := (m2.frozen (p := ⟨z, 3, none⟩) (show z < W2.heap.size from HK.out.1.lt) (by have := HK.out.sep; show ¬ z = g2; omega)).trans (show W2.drew.frozen? ⟨z, 3, none⟩ = false from HK.out.1.f 3); clear m1 m2 hgz)
    refine any_take (i := 15) (some 280) (v := ?_) rfl rfl (by kernel_rfl) (by kernel_rfl) (by kernel_rfl) (fun _ _ _ h => h) (Or.inl ⟨by rfl, ?_⟩) ?_
    rotate_left 1
    · ((intro W; go_simp); all_goals (with_reducible rfl))
    (try simp only [Act.put, List.setIfInBounds_toArray, List.set_cons_zero, List.set_cons_succ])
    refine any_take (i := 16) (some 281) (v := ?_) rfl rfl (by kernel_rfl) (by kernel_rfl) (by kernel_rfl) (fun _ _ _ h => h) (Or.inl ⟨by rfl, ?_⟩) ?_
    rotate_left 1
    · ((intro W; go_simp); all_goals (with_reducible rfl))
    (try simp only [Act.put, List.setIfInBounds_toArray, List.set_cons_zero, List.set_cons_succ])
    refine any_take (i := 17) (some 282) (v := ?_) rfl rfl (by kernel_rfl) (by kernel_rfl) (by kernel_rfl) (fun _ _ _ h => h) (Or.inl ⟨by rfl, ?_⟩) ?_
    rotate_left 1
    · ((intro W; go_simp); all_goals (with_reducible rfl))
    (try simp only [Act.put, List.setIfInBounds_toArray, List.set_cons_zero, List.set_cons_succ])
    refine wpAny_ready (rs := [18]) (by kernel_rfl) (by simp) (AllReady.cons rfl (fun K hK => ?_) AllReady.nil)
    go_simp
    refine hK _ _ ?_
    clear hK K
    refine wpAny_done (by kernel_rfl) ?_ _
    clear hS hS0 S
    refine NoPanic.normal ?_
    obtain ⟨W3, hW3⟩ : ∃ W3, W3 = w9.setCell ⟨z, 3, none⟩ (.slice (some ⟨gz, 0, none⟩) (lits 18446744073709551616 (2 ^ (-(x)).toNat)).length cq) := ⟨_, rfl⟩
    rw [← hW3]
    have HK3 := Aside0.mk (show RatSt z w6.heap.size g1 gz m (2 ^ (-(x)).toNat) (.slice (some ⟨g1, 0, none⟩) 1 c1) (.slice (some ⟨gz, 0, none⟩) (lits 18446744073709551616 (2 ^ (-(x)).toNat)).length cq) w W3 from by rw [hW3]; exact HK.out.lsh2 ((Fr.drew (Fr.refl _ _)).trans M2.out) HGZ.out M1.out)
    clear x1 x1' f1' hW3
    have y0 := HK3.out.1.c0
    have y1 := HK3.out.1.c1
    have k0 := HK3.out.1.f 0
    go_wp2_with (go_at_call 95; go_must (refine (HK3.out.fin HSD.out).mono ?_); rintro e wz ⟨u', v', rfl, h9⟩; have H9 := Aside0.mk h9; clear h9)
    refine leaves_cons (f := 114) (args := #[.pointer (some ⟨w6.heap.size, 0, none⟩)]) (by simp) (enters_of Tryz.func114 (by kernel_rfl) rfl _ _) ?_
    refine (free_d _ _ _ H9.out.2.2.2.1).mono ?_
    rintro e u'' w'' ⟨rfl, rfl, rfl⟩
    refine ⟨.tuple #[.pointer (some ⟨z, 0, none⟩), .bool true], by simp [results, Tryz.results73, go_sem], ?_⟩
    rw [HE2.out.1, HE2.out.2]
    exact ⟨u', v', _, _, rfl, H9.out.1, H9.out.2.1, H9.out.2.2.1, H9.out.2.2.2.2⟩
end Go.Proofs.YtgpoplfgngiilaaGreatDoor
