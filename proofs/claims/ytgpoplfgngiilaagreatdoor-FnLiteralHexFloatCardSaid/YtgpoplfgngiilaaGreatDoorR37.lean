/- FnLiteralHexFloat, behind its card (K14). -/
import Derived.Test.YtgpoplfgngiilaaGreatDoorR36
import Derived.Outline
set_option linter.unusedVariables false
set_option linter.unusedSimpArgs false
namespace Go.Proofs.YtgpoplfgngiilaaGreatDoor
set_option linter.unusedVariables false
set_option linter.unusedSimpArgs false
open Go.RowKit Go.Proofs.YtgpoplfgngiilaaGreatDoorW.PrintWords

theorem le_alloc (w : World) (o : Obj) : Le w (w.alloc o) := (Below.refl _ _).alloc (Nat.le_refl _) o
/-- A cell of a new row, read in a later world. -/
theorem ld_fact (w W1 : World) (cs : Array Value) (h : W1 = w.alloc (.cells cs 9)) (j : Nat) (v : Value) (hv : cs[j]? = some v) : ∀ W, Le W1 W → W.cell? ⟨w.heap.size, j, none⟩ = some v := by
  subst h
  intro W hW
  exact (hW.cell (p := ⟨w.heap.size, j, none⟩) (by simp)).trans ((World.cell?_alloc_at _ _ _ _ rfl).trans hv)

set_option maxHeartbeats 8000000 in
set_option maxRecDepth 1000000 in
theorem hex_law (m p j0 j1 : Nat) (k e form x : Int) (C0 C1 : ByteArray) (great plus : Bool) (hm : m < 18446744073709551616) (hp : p ≤ 19) (hx : x.natAbs ≤ 1000)
    (hk0 : 0 ≤ k) (hk1 : k ≤ 255) (he0 : -32768 ≤ e) (he1 : e ≤ 32767) (hf0 : 0 ≤ form) (hf1 : form ≤ 255) (hkp : k % 20 = (p : Int)) (hex : e.tmod 1001 = x) (hj0 : form % 2 = (j0 : Int)) (hj1 : form / 2 % 2 = (j1 : Int)) (hj02 : j0 < 2) (hj12 : j1 < 2) (hgr : decide (form % 4 < 2) = great) (hpl : decide (form > 127) = plus)
    (h0c : (#[Value.string ⟨#[48, 120]⟩, .string ⟨#[48, 88]⟩] : Array Value)[j0]? = some (.string C0)) (h1c : (#[Value.string ⟨#[112]⟩, .string ⟨#[80]⟩] : Array Value)[j1]? = some (.string C1))
    (c0 c1 : UInt8) (hC0 : C0 = bstr [48, c0]) (hC1 : C1 = bstr [c1]) (hc0 : c0 = 120 ∨ c0 = 88) (hc1 : c1 = 112 ∨ c1 = 80)
    (te : TypeId) (pe : Value) (hq : ∀ W, (binOp .eql 85 (.iface te pe) (.iface te pe)).run Tryz.prog W = .ok (.bool true) W) (hq2 : ∀ W, (binOp .neq 85 (.iface te pe) (.iface te pe)).run Tryz.prog W = .ok (.bool false) W) (w : World) (hE : w.cell? ⟨1, 0, none⟩ = some (.iface te pe)) :
    Calls Tryz.prog 5 #[.int .u64 m, .int .u8 k, .int .i16 e, .int .u8 form] w fun e w' => e = .returned (.bool true) ∧ Below w.heap.size w w' := by
  obtain ⟨T0, hT0⟩ : ∃ T, bstr (txt great 16 m) = T := ⟨_, rfl⟩
  obtain ⟨T1, hT1⟩ : ∃ T, bstr (ptd (txt great 16 m) p) = T := ⟨_, rfl⟩
  obtain ⟨T2, hT2⟩ : ∃ T, bstr (expS c1 x plus) = T := ⟨_, rfl⟩
  have CPT := Aside0.mk (fun (W : World) => ptd_c great m p hm hp W)
  have CEX := Aside0.mk (fun (W : World) => exp_c c1 x plus hx W)
  rw [hT0, hT1] at CPT
  rw [hT2, ← hC1] at CEX
  have HT := Aside0.mk (And.intro hT0 (And.intro hT1 (And.intro hT2 (And.intro hC0 (And.intro hC1 (And.intro hc0 hc1))))))
  have HX := Aside0.mk (And.intro hm (And.intro hp hx))
  have HQ := Aside0.mk (And.intro hq hq2)
  have HE := Aside0.mk hE
  have q17 : (p : Int) ≤ 19 := by omega
  have x1 : -1000 ≤ x := by omega
  have x2 : x ≤ 1000 := by omega
  clear hT0 hT1 hT2 hC0 hC1 hc0 hc1 hm hp hx hq hq2 hE
  go_enter Tryz.func5, Tryz.ntmps5
  go_upto_region 3 with (go_at_call 15; go_must (refine (of_word w.heap.size m _ HX.out.1 (by go_simp)).mono ?_); rintro e w1 ⟨v, rfl, hn1, hb1⟩; have HN1 := Aside0.mk hn1; have HB1 := Aside0.mk (show Below w.heap.size w w1 from ((Below.refl _ _).alloc (Nat.le_refl _) _).trans (hb1.mono (by simp))); obtain ⟨A, lA, cA, rfl⟩ := hn1.slice'; clear hn1 hb1)
  have CIB := Aside0.mk (fun (W : World) (hW : Le w1 W) => inBase_c (HN1.out.below hW) HX.out.1 great)
  rw [HT.out.1] at CIB
  have LW : Le w1 w1 := Le.refl _
  obtain ⟨U, hU⟩ : ∃ U, C0 ++ T1 = U := ⟨_, rfl⟩
  obtain ⟨V, hV⟩ : ∃ V, U ++ T2 = V := ⟨_, rfl⟩
  have s0 : C0.size = 2 := by rw [HT.out.2.2.2.1]; rfl
  have s1 : T1.size ≤ 20 := by rw [← HT.out.2.1, bstr_size, ptd_length]; have := txt16_len great m HX.out.1; have := HX.out.2.1; omega
  have s2 : T2.size ≤ 6 := by rw [← HT.out.2.2.1, bstr_size]; exact (exp_len c1 x plus HX.out.2.2).2
  have s3 : U.size ≤ 22 := by rw [← hU, ByteArray.size_append]; omega
  have z1 : C0.size + T1.size ≤ 9223372036854775807 := by omega
  have z2 : ¬ 9223372036854775807 < C0.size + T1.size := by omega
  have z3 : U.size + T2.size ≤ 9223372036854775807 := by omega
  have z4 : ¬ 9223372036854775807 < U.size + T2.size := by omega
  have HU := Aside0.mk (And.intro hU hV)
  clear s0 s1 s2 s3
  have e1 : form.tmod 2 = (j0 : Int) := by rw [Int.tmod_eq_emod_of_nonneg hf0]; exact hj0
  have e2 : decide (form.tmod 4 < 2) = great := by rw [Int.tmod_eq_emod_of_nonneg hf0]; exact hgr
  have e3 : IntKind.u8.wrap (form.tdiv 2) = form / 2 := by rw [Int.tdiv_eq_ediv_of_nonneg hf0, IntKind.wrap_u8]; omega
  have e4 : (form / 2).tmod 2 = (j1 : Int) := by rw [Int.tmod_eq_emod_of_nonneg (by omega)]; exact hj1
  have e5 : (j0 : Int) < 2 := by omega
  have e6 : (j1 : Int) < 2 := by omega
  refine wp_region_K (by kernel_rfl) ?_
  refine k_take (i := 1) (some 23) (v := ?_) rfl rfl (by kernel_rfl) (by kernel_rfl) (by kernel_rfl) (fun _ _ _ h => h) (FixK.pure (by rfl) ?_) ?_
  rotate_left 1
  · ((intro W hW; go_simp); all_goals (with_reducible rfl))
  (try simp only [Act.put, List.setIfInBounds_toArray, List.set_cons_zero, List.set_cons_succ])
  refine k_take (i := 2) (some 24) (v := ?_) rfl rfl (by kernel_rfl) (by kernel_rfl) (by kernel_rfl) (fun _ _ _ h => h) (FixK.pure (by rfl) ?_) ?_
  rotate_left 1
  · ((intro W hW; go_simp); all_goals (with_reducible rfl))
  (try simp only [Act.put, List.setIfInBounds_toArray, List.set_cons_zero, List.set_cons_succ])
  refine k_take (i := 5) (some 27) (v := ?_) rfl rfl (by kernel_rfl) (by kernel_rfl) (by kernel_rfl) (fun _ _ _ h => h) (FixK.pure (by rfl) ?_) ?_
  rotate_left 1
  · ((intro W hW; go_simp); all_goals (with_reducible rfl))
  (try simp only [Act.put, List.setIfInBounds_toArray, List.set_cons_zero, List.set_cons_succ])
  refine k_take (i := 6) (some 28) (v := ?_) rfl rfl (by kernel_rfl) (by kernel_rfl) (by kernel_rfl) (fun _ _ _ h => h) (FixK.pure (by rfl) ?_) ?_
  rotate_left 1
  · ((intro W hW; go_simp); all_goals (with_reducible rfl))
  (try simp only [Act.put, List.setIfInBounds_toArray, List.set_cons_zero, List.set_cons_succ])
  refine k_take (i := 7) (some 29) (v := ?_) rfl rfl (by kernel_rfl) (by kernel_rfl) (by kernel_rfl) (fun _ _ _ h => h) (FixK.pure (by rfl) ?_) ?_
  rotate_left 1
  · ((intro W hW; go_simp); all_goals (with_reducible rfl))
  (try simp only [Act.put, List.setIfInBounds_toArray, List.set_cons_zero, List.set_cons_succ])
  refine k_take (i := 8) (some 30) (v := ?_) rfl rfl (by kernel_rfl) (by kernel_rfl) (by kernel_rfl) (fun _ _ _ h => h) (FixK.pure (by rfl) ?_) ?_
  rotate_left 1
  · ((intro W hW; go_simp); all_goals (with_reducible rfl))
  (try simp only [Act.put, List.setIfInBounds_toArray, List.set_cons_zero, List.set_cons_succ])
  refine k_take (i := 10) (some 32) (v := ?_) rfl rfl (by kernel_rfl) (by kernel_rfl) (by kernel_rfl) (fun _ _ _ h => h) (FixK.pure (by rfl) ?_) ?_
  rotate_left 1
  · ((intro W hW; go_simp); all_goals (with_reducible rfl))
  (try simp only [Act.put, List.setIfInBounds_toArray, List.set_cons_zero, List.set_cons_succ])
  refine k_take (i := 14) (some 36) (v := ?_) rfl rfl (by kernel_rfl) (by kernel_rfl) (by kernel_rfl) (fun _ _ _ h => h) (FixK.pure (by rfl) ?_) ?_
  rotate_left 1
  · ((intro W hW; go_simp); all_goals (with_reducible rfl))
  (try simp only [Act.put, List.setIfInBounds_toArray, List.set_cons_zero, List.set_cons_succ])
  refine k_take (i := 15) (some 37) (v := ?_) rfl rfl (by kernel_rfl) (by kernel_rfl) (by kernel_rfl) (fun _ _ _ h => h) (FixK.pure (by rfl) ?_) ?_
  rotate_left 1
  · ((intro W hW; go_simp); all_goals (with_reducible rfl))
  (try simp only [Act.put, List.setIfInBounds_toArray, List.set_cons_zero, List.set_cons_succ])
  refine k_take (i := 16) (some 38) (v := ?_) rfl rfl (by kernel_rfl) (by kernel_rfl) (by kernel_rfl) (fun _ _ _ h => h) (FixK.pure (by rfl) ?_) ?_
  rotate_left 1
  · ((intro W hW; go_simp); all_goals (with_reducible rfl))
  (try simp only [Act.put, List.setIfInBounds_toArray, List.set_cons_zero, List.set_cons_succ])
  refine k_take (i := 19) (some 41) (v := ?_) rfl rfl (by kernel_rfl) (by kernel_rfl) (by kernel_rfl) (fun _ _ _ h => h) (FixK.pure (by rfl) ?_) ?_
  rotate_left 1
  · ((intro W hW; go_simp); all_goals (with_reducible rfl))
  (try simp only [Act.put, List.setIfInBounds_toArray, List.set_cons_zero, List.set_cons_succ])
  refine k_take (i := 20) (some 42) (v := ?_) rfl rfl (by kernel_rfl) (by kernel_rfl) (by kernel_rfl) (fun _ _ _ h => h) (FixK.pure (by rfl) ?_) ?_
  rotate_left 1
  · ((intro W hW; go_simp); all_goals (with_reducible rfl))
  (try simp only [Act.put, List.setIfInBounds_toArray, List.set_cons_zero, List.set_cons_succ])
  refine k_take (i := 21) (some 43) (v := ?_) rfl rfl (by kernel_rfl) (by kernel_rfl) (by kernel_rfl) (fun _ _ _ h => h) (FixK.pure (by rfl) ?_) ?_
  rotate_left 1
  · ((intro W hW; go_simp); all_goals (with_reducible rfl))
  (try simp only [Act.put, List.setIfInBounds_toArray, List.set_cons_zero, List.set_cons_succ])
  refine k_take (i := 9) (some 31) (v := (.string T0)) rfl rfl (by kernel_rfl) (by kernel_rfl) (by kernel_rfl) (fun _ _ _ h => h) (FixK.call (f := 9) (args := #[.slice A lA cA, .int .i64 16, .bool great]) (by rfl) ?_ (fun W hW => CIB.out W (LW.trans hW))) ?_
  · ((intro W; go_simp); all_goals (with_reducible rfl))
  (try simp only [Act.put, List.setIfInBounds_toArray, List.set_cons_zero, List.set_cons_succ])
  refine k_take (i := 11) (some 33) (v := (.string T1)) rfl rfl (by kernel_rfl) (by kernel_rfl) (by kernel_rfl) (fun _ _ _ h => h) (FixK.call (f := 16) (args := #[.string T0, .int .i64 p]) (by rfl) ?_ (fun W hW => CPT.out W)) ?_
  · ((intro W; go_simp); all_goals (with_reducible rfl))
  (try simp only [Act.put, List.setIfInBounds_toArray, List.set_cons_zero, List.set_cons_succ])
  refine k_all (rs := [0, 13]) (by kernel_rfl) (by simp) (fun wa hwa i hi => ?_)
  simp only [List.mem_cons, List.not_mem_nil, or_false] at hi
  rcases hi with rfl | rfl
  · obtain ⟨Wb0, hWb0⟩ : ∃ W, W = wa.alloc (.cells #[.string ⟨#[48, 120]⟩, .string ⟨#[48, 88]⟩] 9) := ⟨_, rfl⟩
    refine k_run (some 22) (v := .slice (some ⟨wa.heap.size, 0, none⟩) 2 2) (w' := Wb0) rfl rfl (by rfl) (by rw [hWb0]; (first | (go_simp; done) | (go_simp; rfl))) ⟨by rw [hWb0]; exact le_alloc _ _, ?_⟩
    have Lb0 : Le w1 Wb0 := LW.trans (hwa.trans (by rw [hWb0]; exact le_alloc _ _))
    have Fb0 := ld_fact wa Wb0 #[.string ⟨#[48, 120]⟩, .string ⟨#[48, 88]⟩] hWb0 j0 (.string C0) h0c
    generalize wa.heap.size = gb0 at *
    clear hWb0
    (try simp only [Act.put, List.setIfInBounds_toArray, List.set_cons_zero, List.set_cons_succ])
    refine k_take (i := 3) (some 25) (v := ?_) rfl rfl (by kernel_rfl) (by kernel_rfl) (by kernel_rfl) (fun _ _ _ h => h) (FixK.pure (by rfl) ?_) ?_
    rotate_left 1
    · ((intro W hW; go_simp); all_goals (with_reducible rfl))
    (try simp only [Act.put, List.setIfInBounds_toArray, List.set_cons_zero, List.set_cons_succ])
    refine k_take (i := 4) (some 26) (v := ?_) rfl rfl (by kernel_rfl) (by kernel_rfl) (by kernel_rfl) (fun _ _ _ h => h) (FixK.pure (by rfl) ?_) ?_
    rotate_left 1
    · ((intro W hW; have hW2 := Fb0 W hW; go_simp); all_goals (with_reducible rfl))
    (try simp only [Act.put, List.setIfInBounds_toArray, List.set_cons_zero, List.set_cons_succ])
    refine k_take (i := 12) (some 34) (v := ?_) rfl rfl (by kernel_rfl) (by kernel_rfl) (by kernel_rfl) (fun _ _ _ h => h) (FixK.pure (by rfl) ?_) ?_
    rotate_left 1
    · ((intro W hW; go_simp); all_goals (with_reducible rfl))
    (try simp only [Act.put, List.setIfInBounds_toArray, List.set_cons_zero, List.set_cons_succ])
    refine k_all (rs := [13]) (by kernel_rfl) (by simp) (fun wa0 hwa0 i hi => ?_)
    simp only [List.mem_cons, List.not_mem_nil, or_false] at hi
    subst hi
    obtain ⟨Wb130, hWb130⟩ : ∃ W, W = wa0.alloc (.cells #[.string ⟨#[112]⟩, .string ⟨#[80]⟩] 9) := ⟨_, rfl⟩
    refine k_run (some 35) (v := .slice (some ⟨wa0.heap.size, 0, none⟩) 2 2) (w' := Wb130) rfl rfl (by rfl) (by rw [hWb130]; (first | (go_simp; done) | (go_simp; rfl))) ⟨by rw [hWb130]; exact le_alloc _ _, ?_⟩
    have Lb130 : Le w1 Wb130 := Lb0.trans (hwa0.trans (by rw [hWb130]; exact le_alloc _ _))
    have Fb130 := ld_fact wa0 Wb130 #[.string ⟨#[112]⟩, .string ⟨#[80]⟩] hWb130 j1 (.string C1) h1c
    generalize wa0.heap.size = gb130 at *
    clear hWb130
    (try simp only [Act.put, List.setIfInBounds_toArray, List.set_cons_zero, List.set_cons_succ])
    refine k_take (i := 17) (some 39) (v := ?_) rfl rfl (by kernel_rfl) (by kernel_rfl) (by kernel_rfl) (fun _ _ _ h => h) (FixK.pure (by rfl) ?_) ?_
    rotate_left 1
    · ((intro W hW; go_simp); all_goals (with_reducible rfl))
    (try simp only [Act.put, List.setIfInBounds_toArray, List.set_cons_zero, List.set_cons_succ])
    refine k_take (i := 18) (some 40) (v := ?_) rfl rfl (by kernel_rfl) (by kernel_rfl) (by kernel_rfl) (fun _ _ _ h => h) (FixK.pure (by rfl) ?_) ?_
    rotate_left 1
    · ((intro W hW; have hW2 := Fb130 W hW; go_simp); all_goals (with_reducible rfl))
    (try simp only [Act.put, List.setIfInBounds_toArray, List.set_cons_zero, List.set_cons_succ])
    refine k_take (i := 22) (some 44) (v := (.string T2)) rfl rfl (by kernel_rfl) (by kernel_rfl) (by kernel_rfl) (fun _ _ _ h => h) (FixK.call (f := 17) (args := #[.string C1, .int .i64 x, .bool plus]) (by rfl) ?_ (fun W hW => CEX.out W)) ?_
    · ((intro W; go_simp); all_goals (with_reducible rfl))
    (try simp only [Act.put, List.setIfInBounds_toArray, List.set_cons_zero, List.set_cons_succ])
    refine k_take (i := 23) (some 45) (v := ?_) rfl rfl (by kernel_rfl) (by kernel_rfl) (by kernel_rfl) (fun _ _ _ h => h) (FixK.pure (by rfl) ?_) ?_
    rotate_left 1
    · ((intro W hW; go_simp); all_goals (with_reducible rfl))
    (try simp only [Act.put, List.setIfInBounds_toArray, List.set_cons_zero, List.set_cons_succ])
    refine k_take (i := 24) (some 12) (v := ?_) rfl rfl (by kernel_rfl) (by kernel_rfl) (by kernel_rfl) (fun _ _ _ h => h) (FixK.pure (by rfl) ?_) ?_
    rotate_left 1
    · ((intro W hW; go_simp); all_goals (with_reducible rfl))
    (try simp only [Act.put, List.setIfInBounds_toArray, List.set_cons_zero, List.set_cons_succ])
    refine k_done (by kernel_rfl) (fun wl hwl => ?_) _
    have LE1 := Aside0.mk (Lb130.trans hwl)
    clear hwl
    have BL := Aside0.mk (show Below w.heap.size w wl from HB1.out.trans (Below.mono LE1.out HB1.out.size))
    have CLI := Aside0.mk (lit_hex c0 c1 HT.out.2.2.2.2.2.1 HT.out.2.2.2.2.2.2 great plus m p x HX.out.1 HX.out.2.1 HX.out.2.2 te pe HQ.out.1 HQ.out.2 wl ((BL.out.cell (World.block_lt_of_cell? w _ HE.out)).trans HE.out))
    rw [show bstr (hexT c0 c1 great plus m p x) = V by unfold hexT; rw [← bstr_append, ← bstr_append, HT.out.2.1, HT.out.2.2.1, ← HT.out.2.2.2.1, HU.out.1, HU.out.2]] at CLI
    have HFN := Aside0.mk (few_N m p x HX.out.1 HX.out.2.1 HX.out.2.2)
    go_wp2_with (first
      | (go_at_call 11; go_must (refine CLI.out.mono ?_); rintro e w2 ⟨u, v, rfl, hu2, hv2, hb2⟩; have HU2 := Aside0.mk (wn_of hu2); have HV2 := Aside0.mk (wn_of hv2); have L2 := Aside0.mk (LE1.out.trans hb2); clear hu2 hv2 hb2)
      | (go_at_call 20; go_must (refine (whole_c (HN1.out.below L2.out)).mono ?_); rintro e w3 ⟨a3, rfl, hs3, hb3⟩; have H3 := Aside0.mk hs3; have B3 := Aside0.mk (show Le w2 w3 from hb3); clear hs3 hb3)
      | (go_at_call 21; (with_reducible refine (pow16_c p HX.out.2.1 _).mono ?_); rintro e w4 ⟨a4, rfl, hs4, hb4⟩; have H4 := Aside0.mk hs4; have B4 := Aside0.mk (B3.out.trans hb4); have H34 := Aside0.mk (H3.out.below hb4); clear hs4 hb4)
      | (go_at_call 21; (with_reducible refine (pow2_c x HX.out.2.2 _).mono ?_); rintro e w5 ⟨a5, rfl, hs5, hb5⟩; have H5 := Aside0.mk hs5; have B5 := Aside0.mk (B4.out.trans hb5); have H35 := Aside0.mk (H34.out.below hb5); have H45 := Aside0.mk (H4.out.below hb5); clear hs5 hb5)
      | (go_at_call 19; (with_reducible refine (times2_c m p x HX.out.1 HX.out.2.1 HX.out.2.2 H36.out H6.out).mono ?_); rintro e w7 ⟨a7, rfl, hs7, hb7⟩; have H7 := Aside0.mk hs7; have B7 := Aside0.mk (B6.out.trans hb7); clear hs7 hb7)
      | (go_at_call 19; (with_reducible refine (times1_c p x HX.out.2.1 HX.out.2.2 H45.out H5.out).mono ?_); rintro e w6 ⟨a6, rfl, hs6, hb6⟩; have H6 := Aside0.mk hs6; have B6 := Aside0.mk (B5.out.trans hb6); have H36 := Aside0.mk (H35.out.below hb6); clear hs6 hb6)
      | (go_at_call 18; (obtain ⟨y1, y2, rfl, hy1, hy2⟩ := H7.out); go_must (refine (isFloat_c (HU2.out.below B7.out) (HV2.out.below B7.out) hy1 hy2 HFN.out.1 HFN.out.2.1 HFN.out.2.2.1 HFN.out.2.2.2).mono ?_); rintro e w8 ⟨rfl, hb8⟩; have B8 := Aside0.mk (B7.out.trans hb8); clear hy1 hy2 hb8))
    go_ret
    have LZ : Le w1 _ := L2.out.trans B8.out
    exact ⟨rfl, HB1.out.trans (Below.mono LZ HB1.out.size)⟩
  · obtain ⟨Wb13, hWb13⟩ : ∃ W, W = wa.alloc (.cells #[.string ⟨#[112]⟩, .string ⟨#[80]⟩] 9) := ⟨_, rfl⟩
    refine k_run (some 35) (v := .slice (some ⟨wa.heap.size, 0, none⟩) 2 2) (w' := Wb13) rfl rfl (by rfl) (by rw [hWb13]; (first | (go_simp; done) | (go_simp; rfl))) ⟨by rw [hWb13]; exact le_alloc _ _, ?_⟩
    have Lb13 : Le w1 Wb13 := LW.trans (hwa.trans (by rw [hWb13]; exact le_alloc _ _))
    have Fb13 := ld_fact wa Wb13 #[.string ⟨#[112]⟩, .string ⟨#[80]⟩] hWb13 j1 (.string C1) h1c
    generalize wa.heap.size = gb13 at *
    clear hWb13
    (try simp only [Act.put, List.setIfInBounds_toArray, List.set_cons_zero, List.set_cons_succ])
    refine k_take (i := 17) (some 39) (v := ?_) rfl rfl (by kernel_rfl) (by kernel_rfl) (by kernel_rfl) (fun _ _ _ h => h) (FixK.pure (by rfl) ?_) ?_
    rotate_left 1
    · ((intro W hW; go_simp); all_goals (with_reducible rfl))
    (try simp only [Act.put, List.setIfInBounds_toArray, List.set_cons_zero, List.set_cons_succ])
    refine k_take (i := 18) (some 40) (v := ?_) rfl rfl (by kernel_rfl) (by kernel_rfl) (by kernel_rfl) (fun _ _ _ h => h) (FixK.pure (by rfl) ?_) ?_
    rotate_left 1
    · ((intro W hW; have hW2 := Fb13 W hW; go_simp); all_goals (with_reducible rfl))
    (try simp only [Act.put, List.setIfInBounds_toArray, List.set_cons_zero, List.set_cons_succ])
    refine k_take (i := 22) (some 44) (v := (.string T2)) rfl rfl (by kernel_rfl) (by kernel_rfl) (by kernel_rfl) (fun _ _ _ h => h) (FixK.call (f := 17) (args := #[.string C1, .int .i64 x, .bool plus]) (by rfl) ?_ (fun W hW => CEX.out W)) ?_
    · ((intro W; go_simp); all_goals (with_reducible rfl))
    (try simp only [Act.put, List.setIfInBounds_toArray, List.set_cons_zero, List.set_cons_succ])
    refine k_all (rs := [0]) (by kernel_rfl) (by simp) (fun wa13 hwa13 i hi => ?_)
    simp only [List.mem_cons, List.not_mem_nil, or_false] at hi
    subst hi
    obtain ⟨Wb013, hWb013⟩ : ∃ W, W = wa13.alloc (.cells #[.string ⟨#[48, 120]⟩, .string ⟨#[48, 88]⟩] 9) := ⟨_, rfl⟩
    refine k_run (some 22) (v := .slice (some ⟨wa13.heap.size, 0, none⟩) 2 2) (w' := Wb013) rfl rfl (by rfl) (by rw [hWb013]; (first | (go_simp; done) | (go_simp; rfl))) ⟨by rw [hWb013]; exact le_alloc _ _, ?_⟩
    have Lb013 : Le w1 Wb013 := Lb13.trans (hwa13.trans (by rw [hWb013]; exact le_alloc _ _))
    have Fb013 := ld_fact wa13 Wb013 #[.string ⟨#[48, 120]⟩, .string ⟨#[48, 88]⟩] hWb013 j0 (.string C0) h0c
    generalize wa13.heap.size = gb013 at *
    clear hWb013
    (try simp only [Act.put, List.setIfInBounds_toArray, List.set_cons_zero, List.set_cons_succ])
    refine k_take (i := 3) (some 25) (v := ?_) rfl rfl (by kernel_rfl) (by kernel_rfl) (by kernel_rfl) (fun _ _ _ h => h) (FixK.pure (by rfl) ?_) ?_
    rotate_left 1
    · ((intro W hW; go_simp); all_goals (with_reducible rfl))
    (try simp only [Act.put, List.setIfInBounds_toArray, List.set_cons_zero, List.set_cons_succ])
    refine k_take (i := 4) (some 26) (v := ?_) rfl rfl (by kernel_rfl) (by kernel_rfl) (by kernel_rfl) (fun _ _ _ h => h) (FixK.pure (by rfl) ?_) ?_
    rotate_left 1
    · ((intro W hW; have hW2 := Fb013 W hW; go_simp); all_goals (with_reducible rfl))
    (try simp only [Act.put, List.setIfInBounds_toArray, List.set_cons_zero, List.set_cons_succ])
    refine k_take (i := 12) (some 34) (v := ?_) rfl rfl (by kernel_rfl) (by kernel_rfl) (by kernel_rfl) (fun _ _ _ h => h) (FixK.pure (by rfl) ?_) ?_
    rotate_left 1
    · ((intro W hW; go_simp); all_goals (with_reducible rfl))
    (try simp only [Act.put, List.setIfInBounds_toArray, List.set_cons_zero, List.set_cons_succ])
    refine k_take (i := 23) (some 45) (v := ?_) rfl rfl (by kernel_rfl) (by kernel_rfl) (by kernel_rfl) (fun _ _ _ h => h) (FixK.pure (by rfl) ?_) ?_
    rotate_left 1
    · ((intro W hW; go_simp); all_goals (with_reducible rfl))
    (try simp only [Act.put, List.setIfInBounds_toArray, List.set_cons_zero, List.set_cons_succ])
    refine k_take (i := 24) (some 12) (v := ?_) rfl rfl (by kernel_rfl) (by kernel_rfl) (by kernel_rfl) (fun _ _ _ h => h) (FixK.pure (by rfl) ?_) ?_
    rotate_left 1
    · ((intro W hW; go_simp); all_goals (with_reducible rfl))
    (try simp only [Act.put, List.setIfInBounds_toArray, List.set_cons_zero, List.set_cons_succ])
    refine k_done (by kernel_rfl) (fun wl hwl => ?_) _
    have LE1 := Aside0.mk (Lb013.trans hwl)
    clear hwl
    have BL := Aside0.mk (show Below w.heap.size w wl from HB1.out.trans (Below.mono LE1.out HB1.out.size))
    have CLI := Aside0.mk (lit_hex c0 c1 HT.out.2.2.2.2.2.1 HT.out.2.2.2.2.2.2 great plus m p x HX.out.1 HX.out.2.1 HX.out.2.2 te pe HQ.out.1 HQ.out.2 wl ((BL.out.cell (World.block_lt_of_cell? w _ HE.out)).trans HE.out))
    rw [show bstr (hexT c0 c1 great plus m p x) = V by unfold hexT; rw [← bstr_append, ← bstr_append, HT.out.2.1, HT.out.2.2.1, ← HT.out.2.2.2.1, HU.out.1, HU.out.2]] at CLI
    have HFN := Aside0.mk (few_N m p x HX.out.1 HX.out.2.1 HX.out.2.2)
    go_wp2_with (first
      | (go_at_call 11; go_must (refine CLI.out.mono ?_); rintro e w2 ⟨u, v, rfl, hu2, hv2, hb2⟩; have HU2 := Aside0.mk (wn_of hu2); have HV2 := Aside0.mk (wn_of hv2); have L2 := Aside0.mk (LE1.out.trans hb2); clear hu2 hv2 hb2)
      | (go_at_call 20; go_must (refine (whole_c (HN1.out.below L2.out)).mono ?_); rintro e w3 ⟨a3, rfl, hs3, hb3⟩; have H3 := Aside0.mk hs3; have B3 := Aside0.mk (show Le w2 w3 from hb3); clear hs3 hb3)
      | (go_at_call 21; (with_reducible refine (pow16_c p HX.out.2.1 _).mono ?_); rintro e w4 ⟨a4, rfl, hs4, hb4⟩; have H4 := Aside0.mk hs4; have B4 := Aside0.mk (B3.out.trans hb4); have H34 := Aside0.mk (H3.out.below hb4); clear hs4 hb4)
      | (go_at_call 21; (with_reducible refine (pow2_c x HX.out.2.2 _).mono ?_); rintro e w5 ⟨a5, rfl, hs5, hb5⟩; have H5 := Aside0.mk hs5; have B5 := Aside0.mk (B4.out.trans hb5); have H35 := Aside0.mk (H34.out.below hb5); have H45 := Aside0.mk (H4.out.below hb5); clear hs5 hb5)
      | (go_at_call 19; (with_reducible refine (times2_c m p x HX.out.1 HX.out.2.1 HX.out.2.2 H36.out H6.out).mono ?_); rintro e w7 ⟨a7, rfl, hs7, hb7⟩; have H7 := Aside0.mk hs7; have B7 := Aside0.mk (B6.out.trans hb7); clear hs7 hb7)
      | (go_at_call 19; (with_reducible refine (times1_c p x HX.out.2.1 HX.out.2.2 H45.out H5.out).mono ?_); rintro e w6 ⟨a6, rfl, hs6, hb6⟩; have H6 := Aside0.mk hs6; have B6 := Aside0.mk (B5.out.trans hb6); have H36 := Aside0.mk (H35.out.below hb6); clear hs6 hb6)
      | (go_at_call 18; (obtain ⟨y1, y2, rfl, hy1, hy2⟩ := H7.out); go_must (refine (isFloat_c (HU2.out.below B7.out) (HV2.out.below B7.out) hy1 hy2 HFN.out.1 HFN.out.2.1 HFN.out.2.2.1 HFN.out.2.2.2).mono ?_); rintro e w8 ⟨rfl, hb8⟩; have B8 := Aside0.mk (B7.out.trans hb8); clear hy1 hy2 hb8))
    go_ret
    have LZ : Le w1 _ := L2.out.trans B8.out
    exact ⟨rfl, HB1.out.trans (Below.mono LZ HB1.out.size)⟩
end Go.Proofs.YtgpoplfgngiilaaGreatDoor
