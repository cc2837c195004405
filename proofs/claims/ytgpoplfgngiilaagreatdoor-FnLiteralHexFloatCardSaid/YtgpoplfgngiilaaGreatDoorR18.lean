/- FnLiteralHexFloat, behind its card (G8). -/
import Derived.Test.YtgpoplfgngiilaaGreatDoorR17
import Derived.LaidEqlPtr
import Derived.Deep.RegionWith
set_option linter.unusedVariables false
set_option linter.unusedSimpArgs false
namespace Go.Proofs.YtgpoplfgngiilaaGreatDoor
set_option linter.unusedVariables false
set_option linter.unusedSimpArgs false
open Go.RowKit Go.Proofs.YtgpoplfgngiilaaGreatDoorW.PrintWords

theorem qr_end {w W : World} {q r : Nat} {a b c v0 : Value} (hr : Iz W r v0) (hqr : q ≠ r) (hf : Fr (fun _ => False) w W) :
    Iz ((((W.setCell ⟨q, 1, none⟩ a).setCell ⟨r, 1, none⟩ b).drew.setCell ⟨q, 0, none⟩ c).setCell ⟨r, 0, none⟩ (.bool false)) r b ∧
    Fr (fun k => k = q ∨ k = r) w ((((W.setCell ⟨q, 1, none⟩ a).setCell ⟨r, 1, none⟩ b).drew.setCell ⟨q, 0, none⟩ c).setCell ⟨r, 0, none⟩ (.bool false)) ∧
    Fr (fun k => k = q ∨ k = r) W ((((W.setCell ⟨q, 1, none⟩ a).setCell ⟨r, 1, none⟩ b).drew.setCell ⟨q, 0, none⟩ c).setCell ⟨r, 0, none⟩ (.bool false)) := by
  have h1 : Iz (W.setCell ⟨q, 1, none⟩ a) r v0 := hr.far (fr_put1 (S := fun k => k = q) (Fr.refl _ _) rfl 1 a) (fun h => hqr h.symm)
  have h2 : Iz ((W.setCell ⟨q, 1, none⟩ a).setCell ⟨r, 1, none⟩ b) r b := blk_set h1 1 b
  have h3 : Iz (((W.setCell ⟨q, 1, none⟩ a).setCell ⟨r, 1, none⟩ b).drew) r b := h2
  have h4 : Iz ((((W.setCell ⟨q, 1, none⟩ a).setCell ⟨r, 1, none⟩ b).drew).setCell ⟨q, 0, none⟩ c) r b := h3.far (fr_put1 (S := fun k => k = q) (Fr.refl _ _) rfl 0 c) (fun h => hqr h.symm)
  have F : Fr (fun k => k = q ∨ k = r) W ((((W.setCell ⟨q, 1, none⟩ a).setCell ⟨r, 1, none⟩ b).drew.setCell ⟨q, 0, none⟩ c).setCell ⟨r, 0, none⟩ (.bool false)) :=
    fr_put1 (fr_put1 (Fr.drewN (fr_put1 (fr_put1 (Fr.refl _ _) (Or.inl rfl) _ _) (Or.inr rfl) _ _) 1) (Or.inl rfl) _ _) (Or.inr rfl) _ _
  exact ⟨blk_set h4 0 (.bool false), (hf.mono (fun _ h => h.elim)).trans F, F⟩

set_option maxHeartbeats 4000000 in
set_option maxRecDepth 1000000 in
/-- q.QuoRem(A, B, r), q and r new, B a word. -/
theorem int_quoRem (q r gA gB a b U y : Nat) (u v : Value) (w : World) (hq : Iz w q (.slice none 0 0)) (hr : Iz w r (.slice none 0 0)) (hA : Iz w gA u) (hB : Iz w gB v) (hu : NW w a u U) (hv : NW w b v y) (hqr : q ≠ r) (hqA : q ≠ gA) (hqB : q ≠ gB) (hrA : r ≠ gA) (hrB : r ≠ gB)
    (h0 : 0 < U) (hl : (lits 18446744073709551616 U).length ≤ 1000) (hy0 : 0 < y) (hy : y < 18446744073709551616) (hyU : y ≤ U) :
    Calls Tryz.prog 235 #[.pointer (some ⟨q, 0, none⟩), .pointer (some ⟨gA, 0, none⟩), .pointer (some ⟨gB, 0, none⟩), .pointer (some ⟨r, 0, none⟩)] w fun e w' =>
      ∃ v', e = .returned (.tuple #[.pointer (some ⟨q, 0, none⟩), .pointer (some ⟨r, 0, none⟩)]) ∧ Iz w' r v' ∧ NV w.heap.size w' v' (lits 18446744073709551616 (U % y)) ∧ Fr (fun k => k = q ∨ k = r) w w' := by
  have HD := Aside0.mk (fun W (h : Below w.heap.size w W) => div_nil U a b y u v (.pointer none) W (hu.far (Fr.of_below (S := fun _ => False) h) (fun h => h)) h0 hl (hv.far (Fr.of_below (S := fun _ => False) h) (fun h => h)) hy0 hy)
  have hq0 := wl_pos (Nat.div_pos hyU hy0)
  have HQ := Aside0.mk hq
  have HR := Aside0.mk hr
  have HL := Aside0.mk (And.intro hq.lt (And.intro hr.lt (And.intro hA.lt hB.lt)))
  have HN := Aside0.mk (And.intro hqr (And.intro hqA (And.intro hqB (And.intro hrA hrB))))
  have q0 := hq.c0
  have q1 := hq.c1
  have r0 := hr.c0
  have r1 := hr.c1
  have a0 := hA.c0
  have a1 := hA.c1
  have b0 := hB.c0
  have b1 := hB.c1
  have n1 : ¬ r = q := fun h => hqr h.symm
  have n2 : ¬ gA = q := fun h => hqA h.symm
  have n3 : ¬ gB = q := fun h => hqB h.symm
  have n4 : ¬ gA = r := fun h => hrA h.symm
  have n5 : ¬ gB = r := fun h => hrB h.symm
  have hqr2 : ¬ q = r := hqr
  obtain ⟨cu, rfl⟩ := hu.slice
  obtain ⟨cv, rfl⟩ := hv.slice
  obtain ⟨lu, hlu⟩ : ∃ l, (lits 18446744073709551616 U).length = l := ⟨_, rfl⟩
  obtain ⟨lv, hlv⟩ : ∃ l, (lits 18446744073709551616 y).length = l := ⟨_, rfl⟩
  obtain ⟨lq, hlq⟩ : ∃ l, (lits 18446744073709551616 (U / y)).length = l := ⟨_, rfl⟩
  rw [hlu] at HD a1
  rw [hlv] at HD b1
  rw [hlq] at hq0
  have hlqb : decide ((lq : Int) > 0) = true := decide_eq_true (by omega)
  have HLQ := Aside0.mk hlq
  rcases Nat.eq_zero_or_pos (lits 18446744073709551616 (U % y)).length with hN | hN
  · clear hq hr hA hB hu hv hqr hqA hqB hrA hrB h0 hl hy0 hy hyU hlu hlv hlq
    go_enter Tryz.func235, Tryz.ntmps235
    go_wp2_with fail
    obtain ⟨S, hS, hS0⟩ : ∃ S : World → Prop, S w.drew ∧ ∀ W, S W → W.cell? ⟨q, 1, none⟩ = some (.slice none 0 0) ∧ W.cell? ⟨r, 1, none⟩ = some (.slice none 0 0) ∧ W.cell? ⟨gA, 1, none⟩ = some (.slice (some ⟨a, 0, none⟩) lu cu) ∧ W.cell? ⟨gB, 1, none⟩ = some (.slice (some ⟨b, 0, none⟩) lv cv) := ⟨_, ⟨q1, r1, a1, b1⟩, fun _ h => h⟩
    refine wp_region_till S 18 (by kernel_rfl) ?_
    refine till_free (i := 0) (some 11) (v := ?_) rfl rfl (by kernel_rfl) (by kernel_rfl) (by kernel_rfl) (by decide) (fun _ _ _ h => h) (Or.inl ⟨by rfl, ?_⟩) hS ?_
    rotate_left 1
    · ((intro W; go_simp); all_goals (with_reducible rfl))
    (try simp only [Act.put, List.setIfInBounds_toArray, List.set_cons_zero, List.set_cons_succ])
    refine till_free (i := 1) (some 12) (v := ?_) rfl rfl (by kernel_rfl) (by kernel_rfl) (by kernel_rfl) (by decide) (fun _ _ _ h => h) (Or.inl ⟨by rfl, ?_⟩) hS ?_
    rotate_left 1
    · ((intro W; go_simp); all_goals (with_reducible rfl))
    (try simp only [Act.put, List.setIfInBounds_toArray, List.set_cons_zero, List.set_cons_succ])
    refine till_free (i := 2) (some 13) (v := ?_) rfl rfl (by kernel_rfl) (by kernel_rfl) (by kernel_rfl) (by decide) (fun _ _ _ h => h) (Or.inl ⟨by rfl, ?_⟩) hS ?_
    rotate_left 1
    · ((intro W; go_simp); all_goals (with_reducible rfl))
    (try simp only [Act.put, List.setIfInBounds_toArray, List.set_cons_zero, List.set_cons_succ])
    refine till_free (i := 3) (some 14) (v := ?_) rfl rfl (by kernel_rfl) (by kernel_rfl) (by kernel_rfl) (by decide) (fun _ _ _ h => h) (Or.inl ⟨by rfl, ?_⟩) hS ?_
    rotate_left 1
    · ((intro W; go_simp); all_goals (with_reducible rfl))
    (try simp only [Act.put, List.setIfInBounds_toArray, List.set_cons_zero, List.set_cons_succ])
    refine till_free (i := 4) (some 15) (v := ?_) rfl rfl (by kernel_rfl) (by kernel_rfl) (by kernel_rfl) (by decide) (fun _ _ _ h => h) (Or.inl ⟨by rfl, ?_⟩) hS ?_
    rotate_left 1
    · ((intro W; go_simp); all_goals (with_reducible rfl))
    (try simp only [Act.put, List.setIfInBounds_toArray, List.set_cons_zero, List.set_cons_succ])
    refine till_free (i := 6) (some 17) (v := ?_) rfl rfl (by kernel_rfl) (by kernel_rfl) (by kernel_rfl) (by decide) (fun _ _ _ h => h) (Or.inl ⟨by rfl, ?_⟩) hS ?_
    rotate_left 1
    · ((intro W; go_simp); all_goals (with_reducible rfl))
    (try simp only [Act.put, List.setIfInBounds_toArray, List.set_cons_zero, List.set_cons_succ])
    refine till_free (i := 7) (some 18) (v := ?_) rfl rfl (by kernel_rfl) (by kernel_rfl) (by kernel_rfl) (by decide) (fun _ _ _ h => h) (Or.inl ⟨by rfl, ?_⟩) hS ?_
    rotate_left 1
    · ((intro W; go_simp); all_goals (with_reducible rfl))
    (try simp only [Act.put, List.setIfInBounds_toArray, List.set_cons_zero, List.set_cons_succ])
    refine till_free (i := 8) (some 19) (v := ?_) rfl rfl (by kernel_rfl) (by kernel_rfl) (by kernel_rfl) (by decide) (fun _ _ _ h => h) (Or.inl ⟨by rfl, ?_⟩) hS ?_
    rotate_left 1
    · ((intro W; go_simp); all_goals (with_reducible rfl))
    (try simp only [Act.put, List.setIfInBounds_toArray, List.set_cons_zero, List.set_cons_succ])
    refine till_free (i := 10) (some 21) (v := ?_) rfl rfl (by kernel_rfl) (by kernel_rfl) (by kernel_rfl) (by decide) (fun _ _ _ h => h) (Or.inl ⟨by rfl, ?_⟩) hS ?_
    rotate_left 1
    · ((intro W; go_simp); all_goals (with_reducible rfl))
    (try simp only [Act.put, List.setIfInBounds_toArray, List.set_cons_zero, List.set_cons_succ])
    refine till_free (i := 11) (some 22) (v := ?_) rfl rfl (by kernel_rfl) (by kernel_rfl) (by kernel_rfl) (by decide) (fun _ _ _ h => h) (Or.inl ⟨by rfl, ?_⟩) hS ?_
    rotate_left 1
    · ((intro W; go_simp); all_goals (with_reducible rfl))
    (try simp only [Act.put, List.setIfInBounds_toArray, List.set_cons_zero, List.set_cons_succ])
    refine till_free (i := 12) (some 23) (v := ?_) rfl rfl (by kernel_rfl) (by kernel_rfl) (by kernel_rfl) (by decide) (fun _ _ _ h => h) (Or.inl ⟨by rfl, ?_⟩) hS ?_
    rotate_left 1
    · ((intro W; go_simp); all_goals (with_reducible rfl))
    (try simp only [Act.put, List.setIfInBounds_toArray, List.set_cons_zero, List.set_cons_succ])
    refine till_free (i := 14) (some 25) (v := ?_) rfl rfl (by kernel_rfl) (by kernel_rfl) (by kernel_rfl) (by decide) (fun _ _ _ h => h) (Or.inl ⟨by rfl, ?_⟩) hS ?_
    rotate_left 1
    · ((intro W; go_simp); all_goals (with_reducible rfl))
    (try simp only [Act.put, List.setIfInBounds_toArray, List.set_cons_zero, List.set_cons_succ])
    refine till_free (i := 15) (some 26) (v := ?_) rfl rfl (by kernel_rfl) (by kernel_rfl) (by kernel_rfl) (by decide) (fun _ _ _ h => h) (Or.inl ⟨by rfl, ?_⟩) hS ?_
    rotate_left 1
    · ((intro W; go_simp); all_goals (with_reducible rfl))
    (try simp only [Act.put, List.setIfInBounds_toArray, List.set_cons_zero, List.set_cons_succ])
    refine till_free (i := 16) (some 27) (v := ?_) rfl rfl (by kernel_rfl) (by kernel_rfl) (by kernel_rfl) (by decide) (fun _ _ _ h => h) (Or.inl ⟨by rfl, ?_⟩) hS ?_
    rotate_left 1
    · ((intro W; go_simp); all_goals (with_reducible rfl))
    (try simp only [Act.put, List.setIfInBounds_toArray, List.set_cons_zero, List.set_cons_succ])
    refine till_take (i := 5) (some 16) (v := ?_) rfl rfl (by kernel_rfl) (by kernel_rfl) (by kernel_rfl) (by kernel_rfl) (by kernel_rfl) (fun _ _ _ h => h) (Or.inl ⟨by rfl, ?_⟩) hS ?_
    rotate_left 1
    · ((intro W hW; have hW2 := hS0 W hW; go_simp); all_goals (with_reducible rfl))
    (try simp only [Act.put, List.setIfInBounds_toArray, List.set_cons_zero, List.set_cons_succ])
    refine till_take (i := 9) (some 20) (v := ?_) rfl rfl (by kernel_rfl) (by kernel_rfl) (by kernel_rfl) (by kernel_rfl) (by kernel_rfl) (fun _ _ _ h => h) (Or.inl ⟨by rfl, ?_⟩) hS ?_
    rotate_left 1
    · ((intro W hW; have hW2 := hS0 W hW; go_simp); all_goals (with_reducible rfl))
    (try simp only [Act.put, List.setIfInBounds_toArray, List.set_cons_zero, List.set_cons_succ])
    refine till_take (i := 13) (some 24) (v := ?_) rfl rfl (by kernel_rfl) (by kernel_rfl) (by kernel_rfl) (by kernel_rfl) (by kernel_rfl) (fun _ _ _ h => h) (Or.inl ⟨by rfl, ?_⟩) hS ?_
    rotate_left 1
    · ((intro W hW; have hW2 := hS0 W hW; go_simp); all_goals (with_reducible rfl))
    (try simp only [Act.put, List.setIfInBounds_toArray, List.set_cons_zero, List.set_cons_succ])
    refine till_take (i := 17) (some 28) (v := ?_) rfl rfl (by kernel_rfl) (by kernel_rfl) (by kernel_rfl) (by kernel_rfl) (by kernel_rfl) (fun _ _ _ h => h) (Or.inl ⟨by rfl, ?_⟩) hS ?_
    rotate_left 1
    · ((intro W hW; have hW2 := hS0 W hW; go_simp); all_goals (with_reducible rfl))
    (try simp only [Act.put, List.setIfInBounds_toArray, List.set_cons_zero, List.set_cons_succ])
    refine wpTill_call (c := 18) (by kernel_rfl) (by kernel_rfl) (AllReady.cons rfl (fun K hK => ?_) AllReady.nil)
    go_simp
    go_wp2_with (go_at_call 139; refine (HD.out _ ?_).mono ?_; (repeat (first | exact Below.refl _ _ | apply Below.drew)); rintro e w1 ⟨v1, v2, rfl, h1, h2, h3⟩; obtain ⟨cq, rfl⟩ := h1.slice; obtain ⟨A2, c2, nr, hnr, rfl⟩ := h2.slice; have H1 := Aside0.mk h1; have H2 := Aside0.mk h2; have H3 := Aside0.mk h3; rw [hnr] at hN; (try obtain rfl : nr = 0 := hN); (try have hb : decide ((nr : Int) > 0) = true := decide_eq_true (by omega)); have q0' := h3.cellv q0 (fun h => h); have q1' := h3.cellv q1 (fun h => h); have r0' := h3.cellv r0 (fun h => h); have r1' := h3.cellv r1 (fun h => h); have a0' := h3.cellv a0 (fun h => h); have b0' := h3.cellv b0 (fun h => h); have fq := fun i => (h3.frozen (p := ⟨q, i, none⟩) HL.out.1 (fun h => h)).trans (HQ.out.f0 i); have fr := fun i => (h3.frozen (p := ⟨r, i, none⟩) HL.out.2.1 (fun h => h)).trans (HR.out.f0 i); have fq0 := fq 0; have fq1 := fq 1; have fr0 := fr 0; have fr1 := fr 1; rw [HLQ.out]; clear h1 h2 h3 hnr fq fr)
    refine any_take (i := 19) (some 10) (v := ?_) rfl rfl (by kernel_rfl) (by kernel_rfl) (by kernel_rfl) (fun _ _ _ h => h) (Or.inl ⟨by rfl, ?_⟩) ?_
    rotate_left 1
    · ((intro W; go_simp); all_goals (with_reducible rfl))
    (try simp only [Act.put, List.setIfInBounds_toArray, List.set_cons_zero, List.set_cons_succ])
    refine any_take (i := 20) (some 30) (v := ?_) rfl rfl (by kernel_rfl) (by kernel_rfl) (by kernel_rfl) (fun _ _ _ h => h) (Or.inl ⟨by rfl, ?_⟩) ?_
    rotate_left 1
    · ((intro W; go_simp); all_goals (with_reducible rfl))
    (try simp only [Act.put, List.setIfInBounds_toArray, List.set_cons_zero, List.set_cons_succ])
    refine any_take (i := 21) (some 31) (v := ?_) rfl rfl (by kernel_rfl) (by kernel_rfl) (by kernel_rfl) (fun _ _ _ h => h) (Or.inl ⟨by rfl, ?_⟩) ?_
    rotate_left 1
    · ((intro W; go_simp); all_goals (with_reducible rfl))
    (try simp only [Act.put, List.setIfInBounds_toArray, List.set_cons_zero, List.set_cons_succ])
    refine any_take (i := 22) (some 32) (v := ?_) rfl rfl (by kernel_rfl) (by kernel_rfl) (by kernel_rfl) (fun _ _ _ h => h) (Or.inl ⟨by rfl, ?_⟩) ?_
    rotate_left 1
    · ((intro W; go_simp); all_goals (with_reducible rfl))
    (try simp only [Act.put, List.setIfInBounds_toArray, List.set_cons_zero, List.set_cons_succ])
    refine any_take (i := 23) (some 33) (v := ?_) rfl rfl (by kernel_rfl) (by kernel_rfl) (by kernel_rfl) (fun _ _ _ h => h) (Or.inl ⟨by rfl, ?_⟩) ?_
    rotate_left 1
    · ((intro W; go_simp); all_goals (with_reducible rfl))
    (try simp only [Act.put, List.setIfInBounds_toArray, List.set_cons_zero, List.set_cons_succ])
    refine wpAny_ready (rs := [24]) (by kernel_rfl) (by simp) (AllReady.cons rfl (fun K hK => ?_) AllReady.nil)
    go_simp
    refine hK _ _ ?_
    clear hK K
    refine any_take (i := 25) (some 34) (v := ?_) rfl rfl (by kernel_rfl) (by kernel_rfl) (by kernel_rfl) (fun _ _ _ h => h) (Or.inl ⟨by rfl, ?_⟩) ?_
    rotate_left 1
    · ((intro W; go_simp); all_goals (with_reducible rfl))
    (try simp only [Act.put, List.setIfInBounds_toArray, List.set_cons_zero, List.set_cons_succ])
    refine any_take (i := 26) (some 35) (v := ?_) rfl rfl (by kernel_rfl) (by kernel_rfl) (by kernel_rfl) (fun _ _ _ h => h) (Or.inl ⟨by rfl, ?_⟩) ?_
    rotate_left 1
    · ((intro W; go_simp); all_goals (with_reducible rfl))
    (try simp only [Act.put, List.setIfInBounds_toArray, List.set_cons_zero, List.set_cons_succ])
    refine wpAny_ready (rs := [27]) (by kernel_rfl) (by simp) (AllReady.cons rfl (fun K hK => ?_) AllReady.nil)
    go_simp
    refine hK _ _ ?_
    clear hK K
    refine wpAny_done (by kernel_rfl) ?_ _
    clear hS hS0
    go_wp2_with fail
    obtain ⟨S, hS0, hS⟩ : ∃ S : World → Prop, (∀ W, S W → W.cell? ⟨q, 1, none⟩ = some (.slice (some ⟨w.heap.size, 0, none⟩) lq cq) ∧ W.cell? ⟨gA, 0, none⟩ = some (.bool false) ∧ W.cell? ⟨gB, 0, none⟩ = some (.bool false) ∧ W.cell? ⟨r, 1, none⟩ = some (.slice A2 0 c2)) ∧ S (World.drew ((w1.setCell ⟨q, 1, none⟩ (.slice (some ⟨w.heap.size, 0, none⟩) lq cq)).setCell ⟨r, 1, none⟩ (.slice A2 0 c2))) := ⟨_, fun _ h => h, by refine ⟨?_, ?_, ?_, ?_⟩ <;> go_simp⟩
    refine wp_region_till S 33 (by kernel_rfl) ?_
    refine till_free (i := 0) (some 36) (v := ?_) rfl rfl (by kernel_rfl) (by kernel_rfl) (by kernel_rfl) (by decide) (fun _ _ _ h => h) (Or.inl ⟨by rfl, ?_⟩) hS ?_
    rotate_left 1
    · ((intro W; go_simp); all_goals (with_reducible rfl))
    (try simp only [Act.put, List.setIfInBounds_toArray, List.set_cons_zero, List.set_cons_succ])
    refine till_free (i := 1) (some 37) (v := ?_) rfl rfl (by kernel_rfl) (by kernel_rfl) (by kernel_rfl) (by decide) (fun _ _ _ h => h) (Or.inl ⟨by rfl, ?_⟩) hS ?_
    rotate_left 1
    · ((intro W; go_simp); all_goals (with_reducible rfl))
    (try simp only [Act.put, List.setIfInBounds_toArray, List.set_cons_zero, List.set_cons_succ])
    refine till_free (i := 2) (some 38) (v := ?_) rfl rfl (by kernel_rfl) (by kernel_rfl) (by kernel_rfl) (by decide) (fun _ _ _ h => h) (Or.inl ⟨by rfl, ?_⟩) hS ?_
    rotate_left 1
    · ((intro W; go_simp); all_goals (with_reducible rfl))
    (try simp only [Act.put, List.setIfInBounds_toArray, List.set_cons_zero, List.set_cons_succ])
    refine till_free (i := 3) (some 39) (v := ?_) rfl rfl (by kernel_rfl) (by kernel_rfl) (by kernel_rfl) (by decide) (fun _ _ _ h => h) (Or.inl ⟨by rfl, ?_⟩) hS ?_
    rotate_left 1
    · ((intro W; go_simp); all_goals (with_reducible rfl))
    (try simp only [Act.put, List.setIfInBounds_toArray, List.set_cons_zero, List.set_cons_succ])
    refine till_free (i := 4) (some 40) (v := ?_) rfl rfl (by kernel_rfl) (by kernel_rfl) (by kernel_rfl) (by decide) (fun _ _ _ h => h) (Or.inl ⟨by rfl, ?_⟩) hS ?_
    rotate_left 1
    · ((intro W; go_simp); all_goals (with_reducible rfl))
    (try simp only [Act.put, List.setIfInBounds_toArray, List.set_cons_zero, List.set_cons_succ])
    refine till_free (i := 19) (some 55) (v := ?_) rfl rfl (by kernel_rfl) (by kernel_rfl) (by kernel_rfl) (by decide) (fun _ _ _ h => h) (Or.inl ⟨by rfl, ?_⟩) hS ?_
    rotate_left 1
    · ((intro W; go_simp); all_goals (with_reducible rfl))
    (try simp only [Act.put, List.setIfInBounds_toArray, List.set_cons_zero, List.set_cons_succ])
    refine till_free (i := 20) (some 56) (v := ?_) rfl rfl (by kernel_rfl) (by kernel_rfl) (by kernel_rfl) (by decide) (fun _ _ _ h => h) (Or.inl ⟨by rfl, ?_⟩) hS ?_
    rotate_left 1
    · ((intro W; go_simp); all_goals (with_reducible rfl))
    (try simp only [Act.put, List.setIfInBounds_toArray, List.set_cons_zero, List.set_cons_succ])
    refine till_free (i := 21) (some 57) (v := ?_) rfl rfl (by kernel_rfl) (by kernel_rfl) (by kernel_rfl) (by decide) (fun _ _ _ h => h) (Or.inl ⟨by rfl, ?_⟩) hS ?_
    rotate_left 1
    · ((intro W; go_simp); all_goals (with_reducible rfl))
    (try simp only [Act.put, List.setIfInBounds_toArray, List.set_cons_zero, List.set_cons_succ])
    refine till_take (i := 5) (some 41) (v := ?_) rfl rfl (by kernel_rfl) (by kernel_rfl) (by kernel_rfl) (by kernel_rfl) (by kernel_rfl) (fun _ _ _ h => h) (Or.inl ⟨by rfl, ?_⟩) hS ?_
    rotate_left 1
    · ((intro W hW; have hW2 := hS0 W hW; go_simp); all_goals (with_reducible rfl))
    (try simp only [Act.put, List.setIfInBounds_toArray, List.set_cons_zero, List.set_cons_succ])
    refine till_free (i := 6) (some 42) (v := ?_) rfl rfl (by kernel_rfl) (by kernel_rfl) (by kernel_rfl) (by decide) (fun _ _ _ h => h) (Or.inl ⟨by rfl, ?_⟩) hS ?_
    rotate_left 1
    · ((intro W; go_simp); all_goals (with_reducible rfl))
    (try simp only [Act.put, List.setIfInBounds_toArray, List.set_cons_zero, List.set_cons_succ])
    refine till_free (i := 7) (some 43) (v := ?_) rfl rfl (by kernel_rfl) (by kernel_rfl) (by kernel_rfl) (by decide) (fun _ _ _ h => h) (Or.inl ⟨by rfl, ?_⟩) hS ?_
    rotate_left 1
    · ((intro W; go_simp); all_goals (with_reducible rfl))
    (try simp only [Act.put, List.setIfInBounds_toArray, List.set_cons_zero, List.set_cons_succ])
    refine till_free (i := 8) (some 44) (v := ?_) rfl rfl (by kernel_rfl) (by kernel_rfl) (by kernel_rfl) (by decide) (fun _ _ _ h => h) (Or.inl ⟨by rfl, ?_⟩) hS ?_
    rotate_left 1
    · ((intro W; go_simp); all_goals (with_reducible rfl))
    (try simp only [Act.put, List.setIfInBounds_toArray, List.set_cons_zero, List.set_cons_succ])
    refine till_free (i := 9) (some 45) (v := ?_) rfl rfl (by kernel_rfl) (by kernel_rfl) (by kernel_rfl) (by decide) (fun _ _ _ h => h) (Or.inl ⟨by rfl, ?_⟩) hS ?_
    rotate_left 1
    · ((intro W; go_simp); all_goals (with_reducible rfl))
    (try simp only [Act.put, List.setIfInBounds_toArray, List.set_cons_zero, List.set_cons_succ])
    refine till_free (i := 10) (some 46) (v := ?_) rfl rfl (by kernel_rfl) (by kernel_rfl) (by kernel_rfl) (by decide) (fun _ _ _ h => h) (Or.inl ⟨by rfl, ?_⟩) hS ?_
    rotate_left 1
    · ((intro W; go_simp); all_goals (with_reducible rfl))
    (try simp only [Act.put, List.setIfInBounds_toArray, List.set_cons_zero, List.set_cons_succ])
    refine till_free (i := 11) (some 47) (v := ?_) rfl rfl (by kernel_rfl) (by kernel_rfl) (by kernel_rfl) (by decide) (fun _ _ _ h => h) (Or.inl ⟨by rfl, ?_⟩) hS ?_
    rotate_left 1
    · ((intro W; go_simp); all_goals (with_reducible rfl))
    (try simp only [Act.put, List.setIfInBounds_toArray, List.set_cons_zero, List.set_cons_succ])
    refine till_free (i := 13) (some 49) (v := ?_) rfl rfl (by kernel_rfl) (by kernel_rfl) (by kernel_rfl) (by decide) (fun _ _ _ h => h) (Or.inl ⟨by rfl, ?_⟩) hS ?_
    rotate_left 1
    · ((intro W; go_simp); all_goals (with_reducible rfl))
    (try simp only [Act.put, List.setIfInBounds_toArray, List.set_cons_zero, List.set_cons_succ])
    refine till_free (i := 14) (some 50) (v := ?_) rfl rfl (by kernel_rfl) (by kernel_rfl) (by kernel_rfl) (by decide) (fun _ _ _ h => h) (Or.inl ⟨by rfl, ?_⟩) hS ?_
    rotate_left 1
    · ((intro W; go_simp); all_goals (with_reducible rfl))
    (try simp only [Act.put, List.setIfInBounds_toArray, List.set_cons_zero, List.set_cons_succ])
    refine till_free (i := 15) (some 51) (v := ?_) rfl rfl (by kernel_rfl) (by kernel_rfl) (by kernel_rfl) (by decide) (fun _ _ _ h => h) (Or.inl ⟨by rfl, ?_⟩) hS ?_
    rotate_left 1
    · ((intro W; go_simp); all_goals (with_reducible rfl))
    (try simp only [Act.put, List.setIfInBounds_toArray, List.set_cons_zero, List.set_cons_succ])
    refine till_take (i := 12) (some 48) (v := ?_) rfl rfl (by kernel_rfl) (by kernel_rfl) (by kernel_rfl) (by kernel_rfl) (by kernel_rfl) (fun _ _ _ h => h) (Or.inl ⟨by rfl, ?_⟩) hS ?_
    rotate_left 1
    · ((intro W hW; have hW2 := hS0 W hW; go_simp); all_goals (with_reducible rfl))
    (try simp only [Act.put, List.setIfInBounds_toArray, List.set_cons_zero, List.set_cons_succ])
    refine till_take (i := 16) (some 52) (v := ?_) rfl rfl (by kernel_rfl) (by kernel_rfl) (by kernel_rfl) (by kernel_rfl) (by kernel_rfl) (fun _ _ _ h => h) (Or.inl ⟨by rfl, ?_⟩) hS ?_
    rotate_left 1
    · ((intro W hW; have hW2 := hS0 W hW; go_simp); all_goals (with_reducible rfl))
    (try simp only [Act.put, List.setIfInBounds_toArray, List.set_cons_zero, List.set_cons_succ])
    refine till_free (i := 17) (some 53) (v := ?_) rfl rfl (by kernel_rfl) (by kernel_rfl) (by kernel_rfl) (by decide) (fun _ _ _ h => h) (Or.inl ⟨by rfl, ?_⟩) hS ?_
    rotate_left 1
    · ((intro W; go_simp); all_goals (with_reducible rfl))
    (try simp only [Act.put, List.setIfInBounds_toArray, List.set_cons_zero, List.set_cons_succ])
    refine till_free (i := 18) (some 54) (v := ?_) rfl rfl (by kernel_rfl) (by kernel_rfl) (by kernel_rfl) (by decide) (fun _ _ _ h => h) (Or.inl ⟨by rfl, ?_⟩) hS ?_
    rotate_left 1
    · ((intro W; go_simp); all_goals (with_reducible rfl))
    (try simp only [Act.put, List.setIfInBounds_toArray, List.set_cons_zero, List.set_cons_succ])
    refine till_take (i := 22) (some 58) (v := ?_) rfl rfl (by kernel_rfl) (by kernel_rfl) (by kernel_rfl) (by kernel_rfl) (by kernel_rfl) (fun _ _ _ h => h) (Or.inl ⟨by rfl, ?_⟩) hS ?_
    rotate_left 1
    · ((intro W hW; have hW2 := hS0 W hW; go_simp); all_goals (with_reducible rfl))
    (try simp only [Act.put, List.setIfInBounds_toArray, List.set_cons_zero, List.set_cons_succ])
    refine till_free (i := 23) (some 59) (v := ?_) rfl rfl (by kernel_rfl) (by kernel_rfl) (by kernel_rfl) (by decide) (fun _ _ _ h => h) (Or.inl ⟨by rfl, ?_⟩) hS ?_
    rotate_left 1
    · ((intro W; go_simp); all_goals (with_reducible rfl))
    (try simp only [Act.put, List.setIfInBounds_toArray, List.set_cons_zero, List.set_cons_succ])
    refine till_free (i := 24) (some 60) (v := ?_) rfl rfl (by kernel_rfl) (by kernel_rfl) (by kernel_rfl) (by decide) (fun _ _ _ h => h) (Or.inl ⟨by rfl, ?_⟩) hS ?_
    rotate_left 1
    · ((intro W; go_simp); all_goals (with_reducible rfl))
    (try simp only [Act.put, List.setIfInBounds_toArray, List.set_cons_zero, List.set_cons_succ])
    refine till_free (i := 25) (some 61) (v := ?_) rfl rfl (by kernel_rfl) (by kernel_rfl) (by kernel_rfl) (by decide) (fun _ _ _ h => h) (Or.inl ⟨by rfl, ?_⟩) hS ?_
    rotate_left 1
    · ((intro W; go_simp); all_goals (with_reducible rfl))
    (try simp only [Act.put, List.setIfInBounds_toArray, List.set_cons_zero, List.set_cons_succ])
    refine till_free (i := 26) (some 62) (v := _) rfl rfl (by kernel_rfl) (by kernel_rfl) (by kernel_rfl) (by decide) (fun _ _ _ h => h) (Or.inr ⟨by rfl, rfl⟩) hS ?_
    (try simp only [Act.put, List.setIfInBounds_toArray, List.set_cons_zero, List.set_cons_succ])
    refine till_free (i := 27) (some 63) (v := _) rfl rfl (by kernel_rfl) (by kernel_rfl) (by kernel_rfl) (by decide) (fun _ _ _ h => h) (Or.inr ⟨by rfl, rfl⟩) hS ?_
    (try simp only [Act.put, List.setIfInBounds_toArray, List.set_cons_zero, List.set_cons_succ])
    refine till_free (i := 28) (some 64) (v := _) rfl rfl (by kernel_rfl) (by kernel_rfl) (by kernel_rfl) (by decide) (fun _ _ _ h => h) (Or.inr ⟨by rfl, rfl⟩) hS ?_
    (try simp only [Act.put, List.setIfInBounds_toArray, List.set_cons_zero, List.set_cons_succ])
    refine till_free (i := 29) (some 65) (v := _) rfl rfl (by kernel_rfl) (by kernel_rfl) (by kernel_rfl) (by decide) (fun _ _ _ h => h) (Or.inr ⟨by rfl, rfl⟩) hS ?_
    (try simp only [Act.put, List.setIfInBounds_toArray, List.set_cons_zero, List.set_cons_succ])
    refine till_free (i := 30) (some 66) (v := ?_) rfl rfl (by kernel_rfl) (by kernel_rfl) (by kernel_rfl) (by decide) (fun _ _ _ h => h) (Or.inl ⟨by rfl, ?_⟩) hS ?_
    rotate_left 1
    · ((intro W; go_simp); all_goals (with_reducible rfl))
    (try simp only [Act.put, List.setIfInBounds_toArray, List.set_cons_zero, List.set_cons_succ])
    refine till_free (i := 31) (some 67) (v := ?_) rfl rfl (by kernel_rfl) (by kernel_rfl) (by kernel_rfl) (by decide) (fun _ _ _ h => h) (Or.inl ⟨by rfl, ?_⟩) hS ?_
    rotate_left 1
    · ((intro W; go_simp); all_goals (with_reducible rfl))
    (try simp only [Act.put, List.setIfInBounds_toArray, List.set_cons_zero, List.set_cons_succ])
    refine till_free (i := 32) (some 68) (v := ?_) rfl rfl (by kernel_rfl) (by kernel_rfl) (by kernel_rfl) (by decide) (fun _ _ _ h => h) (Or.inl ⟨by rfl, ?_⟩) hS ?_
    rotate_left 1
    · ((intro W; go_simp); all_goals (with_reducible rfl))
    (try simp only [Act.put, List.setIfInBounds_toArray, List.set_cons_zero, List.set_cons_succ])
    refine wpTill_call (c := 33) (by kernel_rfl) (by kernel_rfl) (AllReady.cons rfl (fun K hK => ?_) AllReady.nil)
    go_simp
    refine hK _ _ ?_
    clear hK K
    refine any_take (i := 34) (some 69) (v := ?_) rfl rfl (by kernel_rfl) (by kernel_rfl) (by kernel_rfl) (fun _ _ _ h => h) (Or.inl ⟨by rfl, ?_⟩) ?_
    rotate_left 1
    · ((intro W; go_simp); all_goals (with_reducible rfl))
    (try simp only [Act.put, List.setIfInBounds_toArray, List.set_cons_zero, List.set_cons_succ])
    refine any_take (i := 35) (some 70) (v := ?_) rfl rfl (by kernel_rfl) (by kernel_rfl) (by kernel_rfl) (fun _ _ _ h => h) (Or.inl ⟨by rfl, ?_⟩) ?_
    rotate_left 1
    · ((intro W; go_simp); all_goals (with_reducible rfl))
    (try simp only [Act.put, List.setIfInBounds_toArray, List.set_cons_zero, List.set_cons_succ])
    refine wpAny_ready (rs := [36]) (by kernel_rfl) (by simp) (AllReady.cons rfl (fun K hK => ?_) AllReady.nil)
    go_simp
    refine hK _ _ ?_
    clear hK K
    refine wpAny_done (by kernel_rfl) ?_ _
    clear hS hS0
    go_wp2_with fail
    go_ret2
    obtain ⟨E1, E2, E3⟩ := qr_end (a := .slice (some ⟨w.heap.size, 0, none⟩) lq cq) (b := .slice A2 0 c2) (c := .bool false) (Iz.far (show Iz w.drew r (.slice none 0 0) from HR.out) H3.out (fun h => h)) HN.out.1 ((Fr.drew (Fr.refl (fun _ => False) w)).trans H3.out)
    exact ⟨_, rfl, E1, NV.fr (S := fun k => k = q ∨ k = r) H2.out E3 (fun g hg => by have h1 := HL.out; show g < w.heap.size; rcases hg with rfl | rfl <;> omega), E2⟩
  · clear hq hr hA hB hu hv hqr hqA hqB hrA hrB h0 hl hy0 hy hyU hlu hlv hlq
    go_enter Tryz.func235, Tryz.ntmps235
    go_wp2_with fail
    obtain ⟨S, hS, hS0⟩ : ∃ S : World → Prop, S w.drew ∧ ∀ W, S W → W.cell? ⟨q, 1, none⟩ = some (.slice none 0 0) ∧ W.cell? ⟨r, 1, none⟩ = some (.slice none 0 0) ∧ W.cell? ⟨gA, 1, none⟩ = some (.slice (some ⟨a, 0, none⟩) lu cu) ∧ W.cell? ⟨gB, 1, none⟩ = some (.slice (some ⟨b, 0, none⟩) lv cv) := ⟨_, ⟨q1, r1, a1, b1⟩, fun _ h => h⟩
    refine wp_region_till S 18 (by kernel_rfl) ?_
    refine till_free (i := 0) (some 11) (v := ?_) rfl rfl (by kernel_rfl) (by kernel_rfl) (by kernel_rfl) (by decide) (fun _ _ _ h => h) (Or.inl ⟨by rfl, ?_⟩) hS ?_
    rotate_left 1
    · ((intro W; go_simp); all_goals (with_reducible rfl))
    (try simp only [Act.put, List.setIfInBounds_toArray, List.set_cons_zero, List.set_cons_succ])
    refine till_free (i := 1) (some 12) (v := ?_) rfl rfl (by kernel_rfl) (by kernel_rfl) (by kernel_rfl) (by decide) (fun _ _ _ h => h) (Or.inl ⟨by rfl, ?_⟩) hS ?_
    rotate_left 1
    · ((intro W; go_simp); all_goals (with_reducible rfl))
    (try simp only [Act.put, List.setIfInBounds_toArray, List.set_cons_zero, List.set_cons_succ])
    refine till_free (i := 2) (some 13) (v := ?_) rfl rfl (by kernel_rfl) (by kernel_rfl) (by kernel_rfl) (by decide) (fun _ _ _ h => h) (Or.inl ⟨by rfl, ?_⟩) hS ?_
    rotate_left 1
    · ((intro W; go_simp); all_goals (with_reducible rfl))
    (try simp only [Act.put, List.setIfInBounds_toArray, List.set_cons_zero, List.set_cons_succ])
    refine till_free (i := 3) (some 14) (v := ?_) rfl rfl (by kernel_rfl) (by kernel_rfl) (by kernel_rfl) (by decide) (fun _ _ _ h => h) (Or.inl ⟨by rfl, ?_⟩) hS ?_
    rotate_left 1
    · ((intro W; go_simp); all_goals (with_reducible rfl))
    (try simp only [Act.put, List.setIfInBounds_toArray, List.set_cons_zero, List.set_cons_succ])
    refine till_free (i := 4) (some 15) (v := ?_) rfl rfl (by kernel_rfl) (by kernel_rfl) (by kernel_rfl) (by decide) (fun _ _ _ h => h) (Or.inl ⟨by rfl, ?_⟩) hS ?_
    rotate_left 1
    · ((intro W; go_simp); all_goals (with_reducible rfl))
    (try simp only [Act.put, List.setIfInBounds_toArray, List.set_cons_zero, List.set_cons_succ])
    refine till_free (i := 6) (some 17) (v := ?_) rfl rfl (by kernel_rfl) (by kernel_rfl) (by kernel_rfl) (by decide) (fun _ _ _ h => h) (Or.inl ⟨by rfl, ?_⟩) hS ?_
    rotate_left 1
    · ((intro W; go_simp); all_goals (with_reducible rfl))
    (try simp only [Act.put, List.setIfInBounds_toArray, List.set_cons_zero, List.set_cons_succ])
    refine till_free (i := 7) (some 18) (v := ?_) rfl rfl (by kernel_rfl) (by kernel_rfl) (by kernel_rfl) (by decide) (fun _ _ _ h => h) (Or.inl ⟨by rfl, ?_⟩) hS ?_
    rotate_left 1
    · ((intro W; go_simp); all_goals (with_reducible rfl))
    (try simp only [Act.put, List.setIfInBounds_toArray, List.set_cons_zero, List.set_cons_succ])
    refine till_free (i := 8) (some 19) (v := ?_) rfl rfl (by kernel_rfl) (by kernel_rfl) (by kernel_rfl) (by decide) (fun _ _ _ h => h) (Or.inl ⟨by rfl, ?_⟩) hS ?_
    rotate_left 1
    · ((intro W; go_simp); all_goals (with_reducible rfl))
    (try simp only [Act.put, List.setIfInBounds_toArray, List.set_cons_zero, List.set_cons_succ])
    refine till_free (i := 10) (some 21) (v := ?_) rfl rfl (by kernel_rfl) (by kernel_rfl) (by kernel_rfl) (by decide) (fun _ _ _ h => h) (Or.inl ⟨by rfl, ?_⟩) hS ?_
    rotate_left 1
    · ((intro W; go_simp); all_goals (with_reducible rfl))
    (try simp only [Act.put, List.setIfInBounds_toArray, List.set_cons_zero, List.set_cons_succ])
    refine till_free (i := 11) (some 22) (v := ?_) rfl rfl (by kernel_rfl) (by kernel_rfl) (by kernel_rfl) (by decide) (fun _ _ _ h => h) (Or.inl ⟨by rfl, ?_⟩) hS ?_
    rotate_left 1
    · ((intro W; go_simp); all_goals (with_reducible rfl))
    (try simp only [Act.put, List.setIfInBounds_toArray, List.set_cons_zero, List.set_cons_succ])
    refine till_free (i := 12) (some 23) (v := ?_) rfl rfl (by kernel_rfl) (by kernel_rfl) (by kernel_rfl) (by decide) (fun _ _ _ h => h) (Or.inl ⟨by rfl, ?_⟩) hS ?_
    rotate_left 1
    · ((intro W; go_simp); all_goals (with_reducible rfl))
    (try simp only [Act.put, List.setIfInBounds_toArray, List.set_cons_zero, List.set_cons_succ])
    refine till_free (i := 14) (some 25) (v := ?_) rfl rfl (by kernel_rfl) (by kernel_rfl) (by kernel_rfl) (by decide) (fun _ _ _ h => h) (Or.inl ⟨by rfl, ?_⟩) hS ?_
    rotate_left 1
    · ((intro W; go_simp); all_goals (with_reducible rfl))
    (try simp only [Act.put, List.setIfInBounds_toArray, List.set_cons_zero, List.set_cons_succ])
    refine till_free (i := 15) (some 26) (v := ?_) rfl rfl (by kernel_rfl) (by kernel_rfl) (by kernel_rfl) (by decide) (fun _ _ _ h => h) (Or.inl ⟨by rfl, ?_⟩) hS ?_
    rotate_left 1
    · ((intro W; go_simp); all_goals (with_reducible rfl))
    (try simp only [Act.put, List.setIfInBounds_toArray, List.set_cons_zero, List.set_cons_succ])
    refine till_free (i := 16) (some 27) (v := ?_) rfl rfl (by kernel_rfl) (by kernel_rfl) (by kernel_rfl) (by decide) (fun _ _ _ h => h) (Or.inl ⟨by rfl, ?_⟩) hS ?_
    rotate_left 1
    · ((intro W; go_simp); all_goals (with_reducible rfl))
    (try simp only [Act.put, List.setIfInBounds_toArray, List.set_cons_zero, List.set_cons_succ])
    refine till_take (i := 5) (some 16) (v := ?_) rfl rfl (by kernel_rfl) (by kernel_rfl) (by kernel_rfl) (by kernel_rfl) (by kernel_rfl) (fun _ _ _ h => h) (Or.inl ⟨by rfl, ?_⟩) hS ?_
    rotate_left 1
    · ((intro W hW; have hW2 := hS0 W hW; go_simp); all_goals (with_reducible rfl))
    (try simp only [Act.put, List.setIfInBounds_toArray, List.set_cons_zero, List.set_cons_succ])
    refine till_take (i := 9) (some 20) (v := ?_) rfl rfl (by kernel_rfl) (by kernel_rfl) (by kernel_rfl) (by kernel_rfl) (by kernel_rfl) (fun _ _ _ h => h) (Or.inl ⟨by rfl, ?_⟩) hS ?_
    rotate_left 1
    · ((intro W hW; have hW2 := hS0 W hW; go_simp); all_goals (with_reducible rfl))
    (try simp only [Act.put, List.setIfInBounds_toArray, List.set_cons_zero, List.set_cons_succ])
    refine till_take (i := 13) (some 24) (v := ?_) rfl rfl (by kernel_rfl) (by kernel_rfl) (by kernel_rfl) (by kernel_rfl) (by kernel_rfl) (fun _ _ _ h => h) (Or.inl ⟨by rfl, ?_⟩) hS ?_
    rotate_left 1
    · ((intro W hW; have hW2 := hS0 W hW; go_simp); all_goals (with_reducible rfl))
    (try simp only [Act.put, List.setIfInBounds_toArray, List.set_cons_zero, List.set_cons_succ])
    refine till_take (i := 17) (some 28) (v := ?_) rfl rfl (by kernel_rfl) (by kernel_rfl) (by kernel_rfl) (by kernel_rfl) (by kernel_rfl) (fun _ _ _ h => h) (Or.inl ⟨by rfl, ?_⟩) hS ?_
    rotate_left 1
    · ((intro W hW; have hW2 := hS0 W hW; go_simp); all_goals (with_reducible rfl))
    (try simp only [Act.put, List.setIfInBounds_toArray, List.set_cons_zero, List.set_cons_succ])
    refine wpTill_call (c := 18) (by kernel_rfl) (by kernel_rfl) (AllReady.cons rfl (fun K hK => ?_) AllReady.nil)
    go_simp
    go_wp2_with (go_at_call 139; refine (HD.out _ ?_).mono ?_; (repeat (first | exact Below.refl _ _ | apply Below.drew)); rintro e w1 ⟨v1, v2, rfl, h1, h2, h3⟩; obtain ⟨cq, rfl⟩ := h1.slice; obtain ⟨A2, c2, nr, hnr, rfl⟩ := h2.slice; have H1 := Aside0.mk h1; have H2 := Aside0.mk h2; have H3 := Aside0.mk h3; rw [hnr] at hN; (try obtain rfl : nr = 0 := hN); (try have hb : decide ((nr : Int) > 0) = true := decide_eq_true (by omega)); have q0' := h3.cellv q0 (fun h => h); have q1' := h3.cellv q1 (fun h => h); have r0' := h3.cellv r0 (fun h => h); have r1' := h3.cellv r1 (fun h => h); have a0' := h3.cellv a0 (fun h => h); have b0' := h3.cellv b0 (fun h => h); have fq := fun i => (h3.frozen (p := ⟨q, i, none⟩) HL.out.1 (fun h => h)).trans (HQ.out.f0 i); have fr := fun i => (h3.frozen (p := ⟨r, i, none⟩) HL.out.2.1 (fun h => h)).trans (HR.out.f0 i); have fq0 := fq 0; have fq1 := fq 1; have fr0 := fr 0; have fr1 := fr 1; rw [HLQ.out]; clear h1 h2 h3 hnr fq fr)
    refine any_take (i := 19) (some 10) (v := ?_) rfl rfl (by kernel_rfl) (by kernel_rfl) (by kernel_rfl) (fun _ _ _ h => h) (Or.inl ⟨by rfl, ?_⟩) ?_
    rotate_left 1
    · ((intro W; go_simp); all_goals (with_reducible rfl))
    (try simp only [Act.put, List.setIfInBounds_toArray, List.set_cons_zero, List.set_cons_succ])
    refine any_take (i := 20) (some 30) (v := ?_) rfl rfl (by kernel_rfl) (by kernel_rfl) (by kernel_rfl) (fun _ _ _ h => h) (Or.inl ⟨by rfl, ?_⟩) ?_
    rotate_left 1
    · ((intro W; go_simp); all_goals (with_reducible rfl))
    (try simp only [Act.put, List.setIfInBounds_toArray, List.set_cons_zero, List.set_cons_succ])
    refine any_take (i := 21) (some 31) (v := ?_) rfl rfl (by kernel_rfl) (by kernel_rfl) (by kernel_rfl) (fun _ _ _ h => h) (Or.inl ⟨by rfl, ?_⟩) ?_
    rotate_left 1
    · ((intro W; go_simp); all_goals (with_reducible rfl))
    (try simp only [Act.put, List.setIfInBounds_toArray, List.set_cons_zero, List.set_cons_succ])
    refine any_take (i := 22) (some 32) (v := ?_) rfl rfl (by kernel_rfl) (by kernel_rfl) (by kernel_rfl) (fun _ _ _ h => h) (Or.inl ⟨by rfl, ?_⟩) ?_
    rotate_left 1
    · ((intro W; go_simp); all_goals (with_reducible rfl))
    (try simp only [Act.put, List.setIfInBounds_toArray, List.set_cons_zero, List.set_cons_succ])
    refine any_take (i := 23) (some 33) (v := ?_) rfl rfl (by kernel_rfl) (by kernel_rfl) (by kernel_rfl) (fun _ _ _ h => h) (Or.inl ⟨by rfl, ?_⟩) ?_
    rotate_left 1
    · ((intro W; go_simp); all_goals (with_reducible rfl))
    (try simp only [Act.put, List.setIfInBounds_toArray, List.set_cons_zero, List.set_cons_succ])
    refine wpAny_ready (rs := [24]) (by kernel_rfl) (by simp) (AllReady.cons rfl (fun K hK => ?_) AllReady.nil)
    go_simp
    refine hK _ _ ?_
    clear hK K
    refine any_take (i := 25) (some 34) (v := ?_) rfl rfl (by kernel_rfl) (by kernel_rfl) (by kernel_rfl) (fun _ _ _ h => h) (Or.inl ⟨by rfl, ?_⟩) ?_
    rotate_left 1
    · ((intro W; go_simp); all_goals (with_reducible rfl))
    (try simp only [Act.put, List.setIfInBounds_toArray, List.set_cons_zero, List.set_cons_succ])
    refine any_take (i := 26) (some 35) (v := ?_) rfl rfl (by kernel_rfl) (by kernel_rfl) (by kernel_rfl) (fun _ _ _ h => h) (Or.inl ⟨by rfl, ?_⟩) ?_
    rotate_left 1
    · ((intro W; go_simp); all_goals (with_reducible rfl))
    (try simp only [Act.put, List.setIfInBounds_toArray, List.set_cons_zero, List.set_cons_succ])
    refine wpAny_ready (rs := [27]) (by kernel_rfl) (by simp) (AllReady.cons rfl (fun K hK => ?_) AllReady.nil)
    go_simp
    refine hK _ _ ?_
    clear hK K
    refine wpAny_done (by kernel_rfl) ?_ _
    clear hS hS0
    go_wp2_with fail
    obtain ⟨S, hS0, hS⟩ : ∃ S : World → Prop, (∀ W, S W → W.cell? ⟨q, 1, none⟩ = some (.slice (some ⟨w.heap.size, 0, none⟩) lq cq) ∧ W.cell? ⟨gA, 0, none⟩ = some (.bool false) ∧ W.cell? ⟨gB, 0, none⟩ = some (.bool false) ∧ W.cell? ⟨r, 1, none⟩ = some (.slice A2 nr c2)) ∧ S (World.drew ((w1.setCell ⟨q, 1, none⟩ (.slice (some ⟨w.heap.size, 0, none⟩) lq cq)).setCell ⟨r, 1, none⟩ (.slice A2 nr c2))) := ⟨_, fun _ h => h, by refine ⟨?_, ?_, ?_, ?_⟩ <;> go_simp⟩
    refine wp_region_till S 33 (by kernel_rfl) ?_
    refine till_free (i := 0) (some 36) (v := ?_) rfl rfl (by kernel_rfl) (by kernel_rfl) (by kernel_rfl) (by decide) (fun _ _ _ h => h) (Or.inl ⟨by rfl, ?_⟩) hS ?_
    rotate_left 1
    · ((intro W; go_simp); all_goals (with_reducible rfl))
    (try simp only [Act.put, List.setIfInBounds_toArray, List.set_cons_zero, List.set_cons_succ])
    refine till_free (i := 1) (some 37) (v := ?_) rfl rfl (by kernel_rfl) (by kernel_rfl) (by kernel_rfl) (by decide) (fun _ _ _ h => h) (Or.inl ⟨by rfl, ?_⟩) hS ?_
    rotate_left 1
    · ((intro W; go_simp); all_goals (with_reducible rfl))
    (try simp only [Act.put, List.setIfInBounds_toArray, List.set_cons_zero, List.set_cons_succ])
    refine till_free (i := 2) (some 38) (v := ?_) rfl rfl (by kernel_rfl) (by kernel_rfl) (by kernel_rfl) (by decide) (fun _ _ _ h => h) (Or.inl ⟨by rfl, ?_⟩) hS ?_
    rotate_left 1
    · ((intro W; go_simp); all_goals (with_reducible rfl))
    (try simp only [Act.put, List.setIfInBounds_toArray, List.set_cons_zero, List.set_cons_succ])
    refine till_free (i := 3) (some 39) (v := ?_) rfl rfl (by kernel_rfl) (by kernel_rfl) (by kernel_rfl) (by decide) (fun _ _ _ h => h) (Or.inl ⟨by rfl, ?_⟩) hS ?_
    rotate_left 1
    · ((intro W; go_simp); all_goals (with_reducible rfl))
    (try simp only [Act.put, List.setIfInBounds_toArray, List.set_cons_zero, List.set_cons_succ])
    refine till_free (i := 4) (some 40) (v := ?_) rfl rfl (by kernel_rfl) (by kernel_rfl) (by kernel_rfl) (by decide) (fun _ _ _ h => h) (Or.inl ⟨by rfl, ?_⟩) hS ?_
    rotate_left 1
    · ((intro W; go_simp); all_goals (with_reducible rfl))
    (try simp only [Act.put, List.setIfInBounds_toArray, List.set_cons_zero, List.set_cons_succ])
    refine till_free (i := 19) (some 55) (v := ?_) rfl rfl (by kernel_rfl) (by kernel_rfl) (by kernel_rfl) (by decide) (fun _ _ _ h => h) (Or.inl ⟨by rfl, ?_⟩) hS ?_
    rotate_left 1
    · ((intro W; go_simp); all_goals (with_reducible rfl))
    (try simp only [Act.put, List.setIfInBounds_toArray, List.set_cons_zero, List.set_cons_succ])
    refine till_free (i := 20) (some 56) (v := ?_) rfl rfl (by kernel_rfl) (by kernel_rfl) (by kernel_rfl) (by decide) (fun _ _ _ h => h) (Or.inl ⟨by rfl, ?_⟩) hS ?_
    rotate_left 1
    · ((intro W; go_simp); all_goals (with_reducible rfl))
    (try simp only [Act.put, List.setIfInBounds_toArray, List.set_cons_zero, List.set_cons_succ])
    refine till_free (i := 21) (some 57) (v := ?_) rfl rfl (by kernel_rfl) (by kernel_rfl) (by kernel_rfl) (by decide) (fun _ _ _ h => h) (Or.inl ⟨by rfl, ?_⟩) hS ?_
    rotate_left 1
    · ((intro W; go_simp); all_goals (with_reducible rfl))
    (try simp only [Act.put, List.setIfInBounds_toArray, List.set_cons_zero, List.set_cons_succ])
    refine till_take (i := 5) (some 41) (v := ?_) rfl rfl (by kernel_rfl) (by kernel_rfl) (by kernel_rfl) (by kernel_rfl) (by kernel_rfl) (fun _ _ _ h => h) (Or.inl ⟨by rfl, ?_⟩) hS ?_
    rotate_left 1
    · ((intro W hW; have hW2 := hS0 W hW; go_simp); all_goals (with_reducible rfl))
    (try simp only [Act.put, List.setIfInBounds_toArray, List.set_cons_zero, List.set_cons_succ])
    refine till_free (i := 6) (some 42) (v := ?_) rfl rfl (by kernel_rfl) (by kernel_rfl) (by kernel_rfl) (by decide) (fun _ _ _ h => h) (Or.inl ⟨by rfl, ?_⟩) hS ?_
    rotate_left 1
    · ((intro W; go_simp); all_goals (with_reducible rfl))
    (try simp only [Act.put, List.setIfInBounds_toArray, List.set_cons_zero, List.set_cons_succ])
    refine till_free (i := 7) (some 43) (v := ?_) rfl rfl (by kernel_rfl) (by kernel_rfl) (by kernel_rfl) (by decide) (fun _ _ _ h => h) (Or.inl ⟨by rfl, ?_⟩) hS ?_
    rotate_left 1
    · ((intro W; go_simp); all_goals (with_reducible rfl))
    (try simp only [Act.put, List.setIfInBounds_toArray, List.set_cons_zero, List.set_cons_succ])
    refine till_free (i := 8) (some 44) (v := ?_) rfl rfl (by kernel_rfl) (by kernel_rfl) (by kernel_rfl) (by decide) (fun _ _ _ h => h) (Or.inl ⟨by rfl, ?_⟩) hS ?_
    rotate_left 1
    · ((intro W; go_simp); all_goals (with_reducible rfl))
    (try simp only [Act.put, List.setIfInBounds_toArray, List.set_cons_zero, List.set_cons_succ])
    refine till_free (i := 9) (some 45) (v := ?_) rfl rfl (by kernel_rfl) (by kernel_rfl) (by kernel_rfl) (by decide) (fun _ _ _ h => h) (Or.inl ⟨by rfl, ?_⟩) hS ?_
    rotate_left 1
    · ((intro W; go_simp); all_goals (with_reducible rfl))
    (try simp only [Act.put, List.setIfInBounds_toArray, List.set_cons_zero, List.set_cons_succ])
    refine till_free (i := 10) (some 46) (v := ?_) rfl rfl (by kernel_rfl) (by kernel_rfl) (by kernel_rfl) (by decide) (fun _ _ _ h => h) (Or.inl ⟨by rfl, ?_⟩) hS ?_
    rotate_left 1
    · ((intro W; go_simp); all_goals (with_reducible rfl))
    (try simp only [Act.put, List.setIfInBounds_toArray, List.set_cons_zero, List.set_cons_succ])
    refine till_free (i := 11) (some 47) (v := ?_) rfl rfl (by kernel_rfl) (by kernel_rfl) (by kernel_rfl) (by decide) (fun _ _ _ h => h) (Or.inl ⟨by rfl, ?_⟩) hS ?_
    rotate_left 1
    · ((intro W; go_simp); all_goals (with_reducible rfl))
    (try simp only [Act.put, List.setIfInBounds_toArray, List.set_cons_zero, List.set_cons_succ])
    refine till_free (i := 13) (some 49) (v := ?_) rfl rfl (by kernel_rfl) (by kernel_rfl) (by kernel_rfl) (by decide) (fun _ _ _ h => h) (Or.inl ⟨by rfl, ?_⟩) hS ?_
    rotate_left 1
    · ((intro W; go_simp); all_goals (with_reducible rfl))
    (try simp only [Act.put, List.setIfInBounds_toArray, List.set_cons_zero, List.set_cons_succ])
    refine till_free (i := 14) (some 50) (v := ?_) rfl rfl (by kernel_rfl) (by kernel_rfl) (by kernel_rfl) (by decide) (fun _ _ _ h => h) (Or.inl ⟨by rfl, ?_⟩) hS ?_
    rotate_left 1
    · ((intro W; go_simp); all_goals (with_reducible rfl))
    (try simp only [Act.put, List.setIfInBounds_toArray, List.set_cons_zero, List.set_cons_succ])
    refine till_free (i := 15) (some 51) (v := ?_) rfl rfl (by kernel_rfl) (by kernel_rfl) (by kernel_rfl) (by decide) (fun _ _ _ h => h) (Or.inl ⟨by rfl, ?_⟩) hS ?_
    rotate_left 1
    · ((intro W; go_simp); all_goals (with_reducible rfl))
    (try simp only [Act.put, List.setIfInBounds_toArray, List.set_cons_zero, List.set_cons_succ])
    refine till_take (i := 12) (some 48) (v := ?_) rfl rfl (by kernel_rfl) (by kernel_rfl) (by kernel_rfl) (by kernel_rfl) (by kernel_rfl) (fun _ _ _ h => h) (Or.inl ⟨by rfl, ?_⟩) hS ?_
    rotate_left 1
    · ((intro W hW; have hW2 := hS0 W hW; go_simp); all_goals (with_reducible rfl))
    (try simp only [Act.put, List.setIfInBounds_toArray, List.set_cons_zero, List.set_cons_succ])
    refine till_take (i := 16) (some 52) (v := ?_) rfl rfl (by kernel_rfl) (by kernel_rfl) (by kernel_rfl) (by kernel_rfl) (by kernel_rfl) (fun _ _ _ h => h) (Or.inl ⟨by rfl, ?_⟩) hS ?_
    rotate_left 1
    · ((intro W hW; have hW2 := hS0 W hW; go_simp); all_goals (with_reducible rfl))
    (try simp only [Act.put, List.setIfInBounds_toArray, List.set_cons_zero, List.set_cons_succ])
    refine till_free (i := 17) (some 53) (v := ?_) rfl rfl (by kernel_rfl) (by kernel_rfl) (by kernel_rfl) (by decide) (fun _ _ _ h => h) (Or.inl ⟨by rfl, ?_⟩) hS ?_
    rotate_left 1
    · ((intro W; go_simp); all_goals (with_reducible rfl))
    (try simp only [Act.put, List.setIfInBounds_toArray, List.set_cons_zero, List.set_cons_succ])
    refine till_free (i := 18) (some 54) (v := ?_) rfl rfl (by kernel_rfl) (by kernel_rfl) (by kernel_rfl) (by decide) (fun _ _ _ h => h) (Or.inl ⟨by rfl, ?_⟩) hS ?_
    rotate_left 1
    · ((intro W; go_simp); all_goals (with_reducible rfl))
    (try simp only [Act.put, List.setIfInBounds_toArray, List.set_cons_zero, List.set_cons_succ])
    refine till_take (i := 22) (some 58) (v := ?_) rfl rfl (by kernel_rfl) (by kernel_rfl) (by kernel_rfl) (by kernel_rfl) (by kernel_rfl) (fun _ _ _ h => h) (Or.inl ⟨by rfl, ?_⟩) hS ?_
    rotate_left 1
    · ((intro W hW; have hW2 := hS0 W hW; go_simp); all_goals (with_reducible rfl))
    (try simp only [Act.put, List.setIfInBounds_toArray, List.set_cons_zero, List.set_cons_succ])
    refine till_free (i := 23) (some 59) (v := ?_) rfl rfl (by kernel_rfl) (by kernel_rfl) (by kernel_rfl) (by decide) (fun _ _ _ h => h) (Or.inl ⟨by rfl, ?_⟩) hS ?_
    rotate_left 1
    · ((intro W; go_simp); all_goals (with_reducible rfl))
    (try simp only [Act.put, List.setIfInBounds_toArray, List.set_cons_zero, List.set_cons_succ])
    refine till_free (i := 24) (some 60) (v := ?_) rfl rfl (by kernel_rfl) (by kernel_rfl) (by kernel_rfl) (by decide) (fun _ _ _ h => h) (Or.inl ⟨by rfl, ?_⟩) hS ?_
    rotate_left 1
    · ((intro W; go_simp); all_goals (with_reducible rfl))
    (try simp only [Act.put, List.setIfInBounds_toArray, List.set_cons_zero, List.set_cons_succ])
    refine till_free (i := 25) (some 61) (v := ?_) rfl rfl (by kernel_rfl) (by kernel_rfl) (by kernel_rfl) (by decide) (fun _ _ _ h => h) (Or.inl ⟨by rfl, ?_⟩) hS ?_
    rotate_left 1
    · ((intro W; go_simp); all_goals (with_reducible rfl))
    (try simp only [Act.put, List.setIfInBounds_toArray, List.set_cons_zero, List.set_cons_succ])
    refine till_free (i := 26) (some 62) (v := ?_) rfl rfl (by kernel_rfl) (by kernel_rfl) (by kernel_rfl) (by decide) (fun _ _ _ h => h) (Or.inl ⟨by rfl, ?_⟩) hS ?_
    rotate_left 1
    · ((intro W; go_simp); all_goals (with_reducible rfl))
    (try simp only [Act.put, List.setIfInBounds_toArray, List.set_cons_zero, List.set_cons_succ])
    refine till_free (i := 27) (some 63) (v := ?_) rfl rfl (by kernel_rfl) (by kernel_rfl) (by kernel_rfl) (by decide) (fun _ _ _ h => h) (Or.inl ⟨by rfl, ?_⟩) hS ?_
    rotate_left 1
    · ((intro W; go_simp); all_goals (with_reducible rfl))
    (try simp only [Act.put, List.setIfInBounds_toArray, List.set_cons_zero, List.set_cons_succ])
    refine till_free (i := 28) (some 64) (v := ?_) rfl rfl (by kernel_rfl) (by kernel_rfl) (by kernel_rfl) (by decide) (fun _ _ _ h => h) (Or.inl ⟨by rfl, ?_⟩) hS ?_
    rotate_left 1
    · ((intro W; go_simp); all_goals (with_reducible rfl))
    (try simp only [Act.put, List.setIfInBounds_toArray, List.set_cons_zero, List.set_cons_succ])
    refine till_take (i := 29) (some 65) (v := ?_) rfl rfl (by kernel_rfl) (by kernel_rfl) (by kernel_rfl) (by kernel_rfl) (by kernel_rfl) (fun _ _ _ h => h) (Or.inl ⟨by rfl, ?_⟩) hS ?_
    rotate_left 1
    · ((intro W hW; have hW2 := hS0 W hW; go_simp); all_goals (with_reducible rfl))
    (try simp only [Act.put, List.setIfInBounds_toArray, List.set_cons_zero, List.set_cons_succ])
    refine till_free (i := 30) (some 66) (v := ?_) rfl rfl (by kernel_rfl) (by kernel_rfl) (by kernel_rfl) (by decide) (fun _ _ _ h => h) (Or.inl ⟨by rfl, ?_⟩) hS ?_
    rotate_left 1
    · ((intro W; go_simp); all_goals (with_reducible rfl))
    (try simp only [Act.put, List.setIfInBounds_toArray, List.set_cons_zero, List.set_cons_succ])
    refine till_free (i := 31) (some 67) (v := ?_) rfl rfl (by kernel_rfl) (by kernel_rfl) (by kernel_rfl) (by decide) (fun _ _ _ h => h) (Or.inl ⟨by rfl, ?_⟩) hS ?_
    rotate_left 1
    · ((intro W; go_simp); all_goals (with_reducible rfl))
    (try simp only [Act.put, List.setIfInBounds_toArray, List.set_cons_zero, List.set_cons_succ])
    refine till_free (i := 32) (some 68) (v := ?_) rfl rfl (by kernel_rfl) (by kernel_rfl) (by kernel_rfl) (by decide) (fun _ _ _ h => h) (Or.inl ⟨by rfl, ?_⟩) hS ?_
    rotate_left 1
    · ((intro W; go_simp); all_goals (with_reducible rfl))
    (try simp only [Act.put, List.setIfInBounds_toArray, List.set_cons_zero, List.set_cons_succ])
    refine wpTill_call (c := 33) (by kernel_rfl) (by kernel_rfl) (AllReady.cons rfl (fun K hK => ?_) AllReady.nil)
    go_simp
    refine hK _ _ ?_
    clear hK K
    refine any_take (i := 34) (some 69) (v := ?_) rfl rfl (by kernel_rfl) (by kernel_rfl) (by kernel_rfl) (fun _ _ _ h => h) (Or.inl ⟨by rfl, ?_⟩) ?_
    rotate_left 1
    · ((intro W; go_simp); all_goals (with_reducible rfl))
    (try simp only [Act.put, List.setIfInBounds_toArray, List.set_cons_zero, List.set_cons_succ])
    refine any_take (i := 35) (some 70) (v := ?_) rfl rfl (by kernel_rfl) (by kernel_rfl) (by kernel_rfl) (fun _ _ _ h => h) (Or.inl ⟨by rfl, ?_⟩) ?_
    rotate_left 1
    · ((intro W; go_simp); all_goals (with_reducible rfl))
    (try simp only [Act.put, List.setIfInBounds_toArray, List.set_cons_zero, List.set_cons_succ])
    refine wpAny_ready (rs := [36]) (by kernel_rfl) (by simp) (AllReady.cons rfl (fun K hK => ?_) AllReady.nil)
    go_simp
    refine hK _ _ ?_
    clear hK K
    refine wpAny_done (by kernel_rfl) ?_ _
    clear hS hS0
    go_wp2_with fail
    go_ret2
    obtain ⟨E1, E2, E3⟩ := qr_end (a := .slice (some ⟨w.heap.size, 0, none⟩) lq cq) (b := .slice A2 nr c2) (c := .bool false) (Iz.far (show Iz w.drew r (.slice none 0 0) from HR.out) H3.out (fun h => h)) HN.out.1 ((Fr.drew (Fr.refl (fun _ => False) w)).trans H3.out)
    exact ⟨_, rfl, E1, NV.fr (S := fun k => k = q ∨ k = r) H2.out E3 (fun g hg => by have h1 := HL.out; show g < w.heap.size; rcases hg with rfl | rfl <;> omega), E2⟩
end Go.Proofs.YtgpoplfgngiilaaGreatDoor
