/- spec.Integer of any value of Kind Int. -/
import Derived.Test.YtgpoplfgngiilaaGreatDoorQA
set_option linter.unusedVariables false
set_option linter.unusedSimpArgs false
namespace Go.Proofs.YtgpoplfgngiilaaGreatDoor
open Go.RowKit Go.Proofs.YtgpoplfgngiilaaGreatDoorW.PrintWords Go.Proofs.YtgpoplfgngiilaaGreatDoorW.PrintLast Go.Proofs.YtgpoplfgngiilaaGreatDoorW.PrintMore

/-- A fraction of an integer, with its sign, in a block of its own. -/
def NewRatioB (nb : Bool) (base g : Nat) (l : List Int) (W : World) : Prop :=
  base ≤ g ∧ ∃ A2 c2 A3 c3, W.heap[g]? = some (.cells #[.bool nb, .slice A2 l.length c2, .slice A3 1 c3] 31 (0, 0)) ∧ Kd.V (Kd.int .i64) 3 W base (fun k_ => base ≤ k_ ∧ k_ ≠ g) (.slice A2 l.length c2) l ∧ Kd.V (Kd.int .i64) 3 W base (fun k_ => base ≤ k_ ∧ k_ ≠ g) (.slice A3 1 c3) [1]
theorem newRatioB_mk {nb : Bool} {base g : Nat} {l : List Int} {W w2 : World} {A2 A3 : Option Addr} {c2 c3 : Nat} (hg : base ≤ g) (hh : W.heap[g]? = some (.cells #[.bool nb, .slice A2 l.length c2, .slice A3 1 c3] 31 (0, 0)))
    (hV : Kd.V (Kd.int .i64) 3 w2 base (fun k_ => base ≤ k_ ∧ k_ ≠ g) (.slice A2 l.length c2) l) (hR : Kd.V (Kd.int .i64) 3 w2 base (fun k_ => base ≤ k_ ∧ k_ ≠ g) (.slice A3 1 c3) [1])
    (hk : ∀ k, k < w2.heap.size → k ≠ g → W.heap[k]? = w2.heap[k]?) : NewRatioB nb base g l W :=
  ⟨hg, A2, c2, A3, c3, hh, Kd.V_step hV (fun k h1 h2 => hk k h2 h1.2), Kd.V_step hR (fun k h1 h2 => hk k h2 h1.2)⟩

set_option maxHeartbeats 40000000 in
set_option maxRecDepth 100000 in
/-- spec.Integer of an integer, whatever the rest of the value is. -/
theorem integer_core (k : Nat) (nb r rr ok neg truth im : Bool) (text : ByteArray) (A : Option Addr) (c : Nat) (ws l : List Int) (A5 : Option Addr) (c5 : Nat) (ds : List Int) (A7 : Option Addr) (c7 : Nat) (l7 : List Int) (A8 : Option Addr) (c8 : Nat) (l8 : List Int) (w : World)
    (hr : Kd.C (Kd.int .u64) w A ws.length ws) (hc : ws.length ≤ c) (hOf : Pr.spec_Of.f k ws = some l) (hok : ok = (r && (ds.length == 0 && rr)))
    (hWh : ∀ (A : Option Addr) (c : Nat) (W : World), Calls Tryz.prog 20 #[.bool neg, .slice A l.length c] W fun e w' => ∃ v, e = .returned (.agg #[.bool nb, .slice A l.length c, v]) ∧ Kd.R (Kd.int .i64) 3 w' W.heap.size (fun _ => True) v [1] ∧ Below W.heap.size W w')
    (hNu : ∀ (A2 : Option Addr) (c2 : Nat) (W : World), Kd.C (Kd.int .u64) W A ws.length ws → Kd.C (Kd.int .i64) W A2 l.length l → l.length ≤ c2 → Calls Tryz.prog 35 #[.agg #[.bool neg, .slice A ws.length c], .bool nb, .slice A2 l.length c2] W fun e w' => e = .returned (.bool r) ∧ Below W.heap.size W w')
    (hRe : ∀ W, Below w.heap.size w W → Calls Tryz.prog 36 #[.agg #[.int .i64 3, .bool truth, .string text, .bool neg, .slice A ws.length c, .slice A5 ds.length c5, .bool im, .slice A7 l7.length c7, .slice A8 l8.length c8]] W fun e w' => e = .returned (.bool rr) ∧ Below W.heap.size W w') :
    Calls Tryz.prog 23 #[.agg #[.int .i64 3, .bool truth, .string text, .bool neg, .slice A ws.length c, .slice A5 ds.length c5, .bool im, .slice A7 l7.length c7, .slice A8 l8.length c8]] w
      fun e w' => ∃ u v, e = .returned (.tuple #[.agg #[.bool nb, u, v], .bool ok]) ∧ Kd.V (Kd.int .i64) 3 w' w.heap.size (fun k_ => w.heap.size ≤ k_) u l ∧ Kd.V (Kd.int .i64) 3 w' w.heap.size (fun k_ => w.heap.size ≤ k_) v [1] ∧ Below w.heap.size w w' := by
  obtain ⟨W0, hW0⟩ : ∃ W0, W0 = (w.alloc (Obj.cells #[.int .i64 3, .bool truth, .string text, .bool neg, .slice A ws.length c, .slice A5 ds.length c5, .bool im, .slice A7 l7.length c7, .slice A8 l8.length c8] 26)).alloc (Obj.cells #[.bool false, .slice none 0 0, .slice none 0 0] 31) := ⟨_, rfl⟩
  have HB0 := Aside0.mk (show Below w.heap.size w W0 by rw [hW0]; exact ((Below.refl w.heap.size w).alloc (Nat.le_refl _) _).alloc (by simp) _)
  have c03 : W0.cell? ⟨w.heap.size, 3, none⟩ = some (.bool neg) := by rw [hW0]; go_simp
  have c04 : W0.cell? ⟨w.heap.size, 4, none⟩ = some (.slice A ws.length c) := by rw [hW0]; go_simp
  have hz0 : W0.heap.size = w.heap.size + 2 := by rw [hW0]; simp
  have HZ := Aside0.mk hz0
  have HR := Aside0.mk (Kd.C_below hr HB0.out)
  have HRw := Aside0.mk hr
  have HC := Aside0.mk hc
  have HOf := Aside0.mk hOf
  have HWh := Aside0.mk hWh
  have HOK := Aside0.mk hok
  have HNu := Aside0.mk hNu
  have HRe := Aside0.mk hRe
  have HW0 := Aside0.mk hW0
  clear hr hc hOf hok hWh hNu hRe hz0 hW0
  have hbz : w.heap.size < W0.heap.size := by have := HZ.out; omega
  go_enter Tryz.func23, Tryz.ntmps23
  go_upto_region 3 with fail
  rw [← HW0.out]
  go_cut [4] (fun s4 wc => ∃ g : Nat, s4 = .pointer (some ⟨g, 0, none⟩) ∧ NewRatioB nb W0.heap.size g l wc ∧ Aside0 (Below W0.heap.size W0 wc))
  case first =>
    have hb0 := Below.refl W0.heap.size W0
    go_region_held3 (fun w' => w'.cell? ⟨w.heap.size, 3, none⟩ = some (.bool neg) ∧ w'.cell? ⟨w.heap.size, 4, none⟩ = some (.slice A ws.length c) ∧ Below W0.heap.size W0 w')
      ((exact keep34 (by repeat (first | assumption | apply Below.drew | (refine Below.alloc ?_ (by first | exact Nat.le_refl _ | (simp; done) | omega | (simp; omega)) _) | (refine Below.setCell ?_ (by first | exact Nat.le_refl _ | (simp; done) | omega | (simp; omega)) _))) hbz c03 c04))
      (first | (go_at_call 15; refine (Pr.spec_Of.calls k A c ws l _ ?_ HC.out HOf.out).mono ?_; (exact Kd.C_below HR.out (by repeat (first | assumption | apply Below.drew | (refine Below.alloc ?_ (by first | exact Nat.le_refl _ | (simp; done) | omega | (simp; omega)) _) | (refine Below.setCell ?_ (by first | exact Nat.le_refl _ | (simp; done) | omega | (simp; omega)) _)))); rintro e w1 ⟨v, rfl, hV, hB⟩; have hs1 := hB.size; (try simp only [World.size_alloc, World.size_drew] at hs1); have hb1 : Below W0.heap.size W0 w1 := Below.trans (by repeat (first | assumption | apply Below.drew | (refine Below.alloc ?_ (by first | exact Nat.le_refl _ | (simp; done) | omega | (simp; omega)) _) | (refine Below.setCell ?_ (by first | exact Nat.le_refl _ | (simp; done) | omega | (simp; omega)) _))) (hB.mono (by first | exact Nat.le_refl _ | (simp; done) | omega | (simp; omega))); have ht1 := hb1.size; (try have hu1 : W0.heap.size < w1.heap.size := by omega); obtain ⟨qa1, qb1⟩ := bcell hB; (try simp only [World.size_alloc, World.size_drew] at qa1 qb1); obtain ⟨A2, c2, rfl⟩ := Kd.V_slice hV) | (go_at_call 20; refine (HWh.out _ _ _).mono ?_; rintro e w2 ⟨v, rfl, hR2, hB2⟩; have hs2 := hB2.size; (try simp only [World.size_alloc] at hs2); have hb2 : Below W0.heap.size W0 w2 := Below.trans (by repeat (first | assumption | apply Below.drew | (refine Below.alloc ?_ (by first | exact Nat.le_refl _ | (simp; done) | omega | (simp; omega)) _) | (refine Below.setCell ?_ (by first | exact Nat.le_refl _ | (simp; done) | omega | (simp; omega)) _))) (hB2.mono (by first | exact Nat.le_refl _ | (simp; done) | omega | (simp; omega))); have ht2 := hb2.size; obtain ⟨qa2, qb2⟩ := bcell hB2; (try simp only [World.size_alloc] at qa2 qb2); obtain ⟨A3, c3, rfl, -⟩ := Kd.R_reads hR2))
    all_goals have hVb := Kd.V_bound hV
    all_goals have hRb := Kd.R_V (base' := 0) (Kd.R_bound hR2)
    · go_wp2_with fail
      go_meet
      refine ⟨w2.heap.size, rfl, newRatioB_mk (w2 := w2) ht2 (heap_alloc_new _ _) (Kd.V_mono (Kd.V_below hVb hB2) (fun k hk => ?_)) (Kd.V_mono hRb (fun k hk => ?_)) (fun k h1 h2 => hk_alloc _ h1 rfl), ⟨hb2.alloc ht2 _⟩⟩
      · simp only [World.size_drew] at hk; omega
      · omega
    · go_wp2_with fail
      go_meet
      refine ⟨w1.heap.size, rfl, newRatioB_mk (w2 := w2) ht1 (blk_put (blk_put (blk_put ((hB2.block _ (by simp)).trans (heap_alloc_new _ _)) 0 _ rfl) 1 _ rfl) 2 _ rfl) (Kd.V_mono (Kd.V_below (Kd.V_alloc hVb _) hB2) (fun k hk => ?_)) (Kd.V_mono hRb (fun k hk => ?_)) (fun k h1 h2 => hk_set h2 (hk_set h2 (hk_set h2 rfl))), ⟨((hb2.setCell ht1 _).setCell ht1 _).setCell ht1 _⟩⟩
      · simp only [World.size_drew] at hk; omega
      · simp only [World.size_alloc] at hk; omega
    · go_wp2_with fail
      go_meet
      refine ⟨W0.heap.size, rfl, newRatioB_mk (w2 := w2) (Nat.le_refl _) (blk_put (blk_put (blk_put ((hB2.block _ hu1).trans ((hB.block _ (by simp)).trans (heap_alloc_new _ _))) 0 _ rfl) 1 _ rfl) 2 _ rfl) (Kd.V_mono (Kd.V_below hVb hB2) (fun k hk => ?_)) (Kd.V_mono hRb (fun k hk => ?_)) (fun k h1 h2 => hk_set h2 (hk_set h2 (hk_set h2 rfl))), ⟨((hb2.setCell (Nat.le_refl _) _).setCell (Nat.le_refl _) _).setCell (Nat.le_refl _) _⟩⟩
      · simp only [World.size_drew, World.size_alloc] at hk; omega
      · omega
  case rest =>
    obtain ⟨g, rfl, HN, HBc⟩ := hcut
    obtain ⟨hgb, A2, c2, A3, c3, hh, hV, hR⟩ := HN
    have hbz1 : w.heap.size + 1 < W0.heap.size := by have := HZ.out; omega
    have d0 : wc.cell? ⟨g, 0, none⟩ = some (.bool nb) := blk_cell hh 0
    have d1 : wc.cell? ⟨g, 1, none⟩ = some (.slice A2 l.length c2) := blk_cell hh 1
    have d2 : wc.cell? ⟨g, 2, none⟩ = some (.slice A3 1 c3) := blk_cell hh 2
    have e0 : wc.cell? ⟨w.heap.size, 0, none⟩ = some (.int .i64 3) := (HBc.out.cell (p := ⟨w.heap.size, 0, none⟩) hbz).trans (by rw [HW0.out]; go_simp)
    have e1 : wc.cell? ⟨w.heap.size, 1, none⟩ = some (.bool truth) := (HBc.out.cell (p := ⟨w.heap.size, 1, none⟩) hbz).trans (by rw [HW0.out]; go_simp)
    have e2 : wc.cell? ⟨w.heap.size, 2, none⟩ = some (.string text) := (HBc.out.cell (p := ⟨w.heap.size, 2, none⟩) hbz).trans (by rw [HW0.out]; go_simp)
    have e3 : wc.cell? ⟨w.heap.size, 3, none⟩ = some (.bool neg) := (HBc.out.cell (p := ⟨w.heap.size, 3, none⟩) hbz).trans (by rw [HW0.out]; go_simp)
    have e4 : wc.cell? ⟨w.heap.size, 4, none⟩ = some (.slice A ws.length c) := (HBc.out.cell (p := ⟨w.heap.size, 4, none⟩) hbz).trans (by rw [HW0.out]; go_simp)
    have e5 : wc.cell? ⟨w.heap.size, 5, none⟩ = some (.slice A5 ds.length c5) := (HBc.out.cell (p := ⟨w.heap.size, 5, none⟩) hbz).trans (by rw [HW0.out]; go_simp)
    have e6 : wc.cell? ⟨w.heap.size, 6, none⟩ = some (.bool im) := (HBc.out.cell (p := ⟨w.heap.size, 6, none⟩) hbz).trans (by rw [HW0.out]; go_simp)
    have e7 : wc.cell? ⟨w.heap.size, 7, none⟩ = some (.slice A7 l7.length c7) := (HBc.out.cell (p := ⟨w.heap.size, 7, none⟩) hbz).trans (by rw [HW0.out]; go_simp)
    have e8 : wc.cell? ⟨w.heap.size, 8, none⟩ = some (.slice A8 l8.length c8) := (HBc.out.cell (p := ⟨w.heap.size, 8, none⟩) hbz).trans (by rw [HW0.out]; go_simp)
    have m0 : wc.cell? ⟨w.heap.size + 1, 0, none⟩ = some (.bool false) := (HBc.out.cell (p := ⟨w.heap.size + 1, 0, none⟩) hbz1).trans (by rw [HW0.out]; go_simp)
    have n0 : wc.frozen? ⟨w.heap.size + 1, 0, none⟩ = false := (HBc.out.frozen (p := ⟨w.heap.size + 1, 0, none⟩) hbz1).trans (by rw [HW0.out]; go_simp)
    have m1 : wc.cell? ⟨w.heap.size + 1, 1, none⟩ = some (.slice none 0 0) := (HBc.out.cell (p := ⟨w.heap.size + 1, 1, none⟩) hbz1).trans (by rw [HW0.out]; go_simp)
    have n1 : wc.frozen? ⟨w.heap.size + 1, 1, none⟩ = false := (HBc.out.frozen (p := ⟨w.heap.size + 1, 1, none⟩) hbz1).trans (by rw [HW0.out]; go_simp)
    have m2 : wc.cell? ⟨w.heap.size + 1, 2, none⟩ = some (.slice none 0 0) := (HBc.out.cell (p := ⟨w.heap.size + 1, 2, none⟩) hbz1).trans (by rw [HW0.out]; go_simp)
    have n2 : wc.frozen? ⟨w.heap.size + 1, 2, none⟩ = false := (HBc.out.frozen (p := ⟨w.heap.size + 1, 2, none⟩) hbz1).trans (by rw [HW0.out]; go_simp)
    have hgS : ¬ (g = w.heap.size + 1) := by omega
    have hbS : ¬ (w.heap.size = w.heap.size + 1) := by omega
    have hgl := blk_lt hh
    have huc : w.heap.size + 1 < wc.heap.size := by omega
    have hf0 : Fr (· = w.heap.size + 1) wc wc := Fr.refl _ _
    have HBw := Aside0.mk (HB0.out.trans (HBc.out.mono (by omega)))
    have HV := Aside0.mk hV
    have HV3 := Aside0.mk hR
    have HH := Aside0.mk hh
    have HRe2 := Aside0.mk (fun W1 (h : Fr (· = w.heap.size + 1) wc W1) => HRe.out W1 (HBw.out.trans (h.toBelow (B := w.heap.size) (by have := HBw.out.size; omega) (fun k hk => by omega))))
    clear hV hR hh
    cases r with
    | false =>
      obtain rfl : ok = false := by rw [HOK.out]; rfl
      go_upto_region 4 with fail
      refine wp_region_noPanic ?_
      refine wp_region_held_drew (S := (fun w' => w'.cell? ⟨g, 0, none⟩ = some (.bool nb) ∧ w'.cell? ⟨g, 1, none⟩ = some (.slice A2 l.length c2) ∧ w'.cell? ⟨g, 2, none⟩ = some (.slice A3 1 c3) ∧ w'.cell? ⟨w.heap.size, 0, none⟩ = some (.int .i64 3) ∧ w'.cell? ⟨w.heap.size, 1, none⟩ = some (.bool truth) ∧ w'.cell? ⟨w.heap.size, 2, none⟩ = some (.string text) ∧ w'.cell? ⟨w.heap.size, 3, none⟩ = some (.bool neg) ∧ w'.cell? ⟨w.heap.size, 4, none⟩ = some (.slice A ws.length c) ∧ w'.cell? ⟨w.heap.size, 5, none⟩ = some (.slice A5 ds.length c5) ∧ w'.cell? ⟨w.heap.size, 6, none⟩ = some (.bool im) ∧ w'.cell? ⟨w.heap.size, 7, none⟩ = some (.slice A7 l7.length c7) ∧ w'.cell? ⟨w.heap.size, 8, none⟩ = some (.slice A8 l8.length c8) ∧ Fr (· = w.heap.size + 1) wc w')) (by kernel_rfl) ?_ (fun hHeld => ?_)
      · (try dsimp only); exact keepI (by repeat (first | assumption | apply Fr.drew | (refine Fr.setCell ?_ (Or.inl (by first | rfl | (simp; done))) _) | apply Fr.alloc)) hgS hbS d0 d1 d2 e0 e1 e2 e3 e4 e5 e6 e7 e8
      refine wpAnyH_take (i := 0) (oi := ({ dst := some 17, op := Op.load 31 (Operand.tmp 4), type := 31, pos := "value.go:11", after := #[], guard := none } : Oper)) (v := ?_) rfl (by kernel_rfl) (by kernel_rfl) (by kernel_rfl) (fun _ _ _ h => h) (Or.inl ⟨by rfl, ?_⟩) (by assumption) ?_
      rotate_left
      · (intro w hSw; (try dsimp only at hSw); go_simp; (try with_reducible rfl))
      (try simp only [Act.put, List.setIfInBounds_toArray, List.set_cons_zero, List.set_cons_succ])
      refine wpAnyH_take (i := 1) (oi := ({ dst := some 18, op := Op.fieldAddr 26 (Operand.tmp 1) 3, type := 0, pos := "value.go:11", after := #[], guard := none } : Oper)) (v := ?_) rfl (by kernel_rfl) (by kernel_rfl) (by kernel_rfl) (fun _ _ _ h => h) (Or.inl ⟨by rfl, ?_⟩) (by assumption) ?_
      rotate_left
      · (intro w hSw; (try dsimp only at hSw); go_simp; (try with_reducible rfl))
      (try simp only [Act.put, List.setIfInBounds_toArray, List.set_cons_zero, List.set_cons_succ])
      refine wpAnyH_take (i := 2) (oi := ({ dst := some 19, op := Op.load 24 (Operand.tmp 18), type := 24, pos := "value.go:11", after := #[{ on := 1, ground := Ground.data }], guard := none } : Oper)) (v := ?_) rfl (by kernel_rfl) (by kernel_rfl) (by kernel_rfl) (fun _ _ _ h => h) (Or.inl ⟨by rfl, ?_⟩) (by assumption) ?_
      rotate_left
      · (intro w hSw; (try dsimp only at hSw); go_simp; (try with_reducible rfl))
      (try simp only [Act.put, List.setIfInBounds_toArray, List.set_cons_zero, List.set_cons_succ])
      refine wpAnyH_take (i := 3) (oi := ({ dst := some 20, op := Op.fieldAddr 31 (Operand.tmp 4) 0, type := 0, pos := "value.go:11", after := #[], guard := none } : Oper)) (v := ?_) rfl (by kernel_rfl) (by kernel_rfl) (by kernel_rfl) (fun _ _ _ h => h) (Or.inl ⟨by rfl, ?_⟩) (by assumption) ?_
      rotate_left
      · (intro w hSw; (try dsimp only at hSw); go_simp; (try with_reducible rfl))
      (try simp only [Act.put, List.setIfInBounds_toArray, List.set_cons_zero, List.set_cons_succ])
      refine wpAnyH_take (i := 4) (oi := ({ dst := some 21, op := Op.load 4 (Operand.tmp 20), type := 4, pos := "value.go:11", after := #[{ on := 3, ground := Ground.data }], guard := none } : Oper)) (v := ?_) rfl (by kernel_rfl) (by kernel_rfl) (by kernel_rfl) (fun _ _ _ h => h) (Or.inl ⟨by rfl, ?_⟩) (by assumption) ?_
      rotate_left
      · (intro w hSw; (try dsimp only at hSw); go_simp; (try with_reducible rfl))
      (try simp only [Act.put, List.setIfInBounds_toArray, List.set_cons_zero, List.set_cons_succ])
      refine wpAnyH_take (i := 5) (oi := ({ dst := some 22, op := Op.fieldAddr 31 (Operand.tmp 4) 1, type := 0, pos := "value.go:11", after := #[], guard := none } : Oper)) (v := ?_) rfl (by kernel_rfl) (by kernel_rfl) (by kernel_rfl) (fun _ _ _ h => h) (Or.inl ⟨by rfl, ?_⟩) (by assumption) ?_
      rotate_left
      · (intro w hSw; (try dsimp only at hSw); go_simp; (try with_reducible rfl))
      (try simp only [Act.put, List.setIfInBounds_toArray, List.set_cons_zero, List.set_cons_succ])
      refine wpAnyH_take (i := 6) (oi := ({ dst := some 23, op := Op.load 29 (Operand.tmp 22), type := 29, pos := "value.go:11", after := #[{ on := 5, ground := Ground.data }], guard := none } : Oper)) (v := ?_) rfl (by kernel_rfl) (by kernel_rfl) (by kernel_rfl) (fun _ _ _ h => h) (Or.inl ⟨by rfl, ?_⟩) (by assumption) ?_
      rotate_left
      · (intro w hSw; (try dsimp only at hSw); go_simp; (try with_reducible rfl))
      (try simp only [Act.put, List.setIfInBounds_toArray, List.set_cons_zero, List.set_cons_succ])
      refine wpAnyH_ready (rs := [7]) (by kernel_rfl) (by simp) ?_
      refine AllReadyH.cons (o := ({ dst := some 24, op := Op.call { callee := Callee.value (Operand.func 35), args := #[Operand.tmp 19, Operand.tmp 21, Operand.tmp 23], argTypes := #[24, 4, 29] }, type := 4, pos := "value.go:11", after := #[{ on := 2, ground := Ground.data }, { on := 4, ground := Ground.data }, { on := 6, ground := Ground.data }], guard := none } : Oper)) rfl (fun K hK => ?_) AllReadyH.nil
      go_simp
      go_at_call 35; refine (HNu.out A2 c2 _ (Kd.C_below HRw.out (HBw.out.trans (Fr.toBelow (B := w.heap.size) (by repeat (first | assumption | apply Fr.drew | (refine Fr.setCell ?_ (Or.inl (by first | rfl | (simp; done))) _) | apply Fr.alloc)) (by have := HBw.out.size; omega) (fun k hk => by omega)))) (Kd.V_reads' (C_fr HV.out (by repeat (first | assumption | apply Fr.drew | (refine Fr.setCell ?_ (Or.inl (by first | rfl | (simp; done))) _) | apply Fr.alloc)) (fun k hk => by omega))).2.2 (Kd.V_reads' (C_fr HV.out (by repeat (first | assumption | apply Fr.drew | (refine Fr.setCell ?_ (Or.inl (by first | rfl | (simp; done))) _) | apply Fr.alloc)) (fun k hk => by omega))).2.1).mono ?_; rintro e w1 ⟨rfl, hB⟩; have hs1 := hB.size; (try simp only [World.size_alloc, World.size_drew] at hs1); have hu1 : w.heap.size + 1 < w1.heap.size := (by omega); obtain ⟨qa1, qb1⟩ := bcell hB; (try simp only [World.size_alloc, World.size_drew] at qa1 qb1); have hf1 : Fr (· = w.heap.size + 1) wc w1 := Fr.below (by repeat (first | assumption | apply Fr.drew | (refine Fr.setCell ?_ (Or.inl (by first | rfl | (simp; done))) _) | apply Fr.alloc)) hB
      (try go_wp2_with fail)
      refine hK.out _ _ ?_ (fun hHeld2 => ?_)
      · (try dsimp only); exact keepI (by repeat (first | assumption | apply Fr.drew | (refine Fr.setCell ?_ (Or.inl (by first | rfl | (simp; done))) _) | apply Fr.alloc)) hgS hbS d0 d1 d2 e0 e1 e2 e3 e4 e5 e6 e7 e8
      clear hK K hHeld
      (try simp only [Act.put, List.setIfInBounds_toArray, List.set_cons_zero, List.set_cons_succ])
      refine wpAnyH_take (i := 8) (oi := ({ dst := some 25, op := Op.move (Operand.tmp 24), type := 4, pos := "value.go:11", after := #[{ on := 7, ground := Ground.data }, { on := 7, ground := Ground.chain }], guard := none } : Oper)) (v := ?_) rfl (by kernel_rfl) (by kernel_rfl) (by kernel_rfl) (fun _ _ _ h => h) (Or.inl ⟨by rfl, ?_⟩) (by assumption) ?_
      rotate_left
      · (intro w hSw; (try dsimp only at hSw); go_simp; (try with_reducible rfl))
      (try simp only [Act.put, List.setIfInBounds_toArray, List.set_cons_zero, List.set_cons_succ])
      refine wpAnyH_take (i := 9) (oi := ({ dst := some 26, op := Op.fieldAddr 26 (Operand.tmp 1) 4, type := 0, pos := "value.go:11", after := #[{ on := 8, ground := Ground.guard }], guard := some (8, true) } : Oper)) (v := undef) rfl (by kernel_rfl) (by kernel_rfl) (by kernel_rfl) (fun _ _ _ h => h) (Or.inr ⟨by rfl, rfl⟩) (by assumption) ?_
      (try simp only [Act.put, List.setIfInBounds_toArray, List.set_cons_zero, List.set_cons_succ])
      refine wpAnyH_take (i := 10) (oi := ({ dst := some 27, op := Op.load 22 (Operand.tmp 26), type := 22, pos := "value.go:11", after := #[{ on := 9, ground := Ground.data }, { on := 8, ground := Ground.guard }], guard := some (8, true) } : Oper)) (v := undef) rfl (by kernel_rfl) (by kernel_rfl) (by kernel_rfl) (fun _ _ _ h => h) (Or.inr ⟨by rfl, rfl⟩) (by assumption) ?_
      (try simp only [Act.put, List.setIfInBounds_toArray, List.set_cons_zero, List.set_cons_succ])
      refine wpAnyH_take (i := 11) (oi := ({ dst := some 28, op := Op.call { callee := Callee.builtin Builtin.len, args := #[Operand.tmp 27], argTypes := #[22] }, type := 3, pos := "value.go:11", after := #[{ on := 10, ground := Ground.data }, { on := 8, ground := Ground.guard }], guard := some (8, true) } : Oper)) (v := undef) rfl (by kernel_rfl) (by kernel_rfl) (by kernel_rfl) (fun _ _ _ h => h) (Or.inr ⟨by rfl, rfl⟩) (by assumption) ?_
      (try simp only [Act.put, List.setIfInBounds_toArray, List.set_cons_zero, List.set_cons_succ])
      refine wpAnyH_take (i := 12) (oi := ({ dst := some 29, op := Op.binOp BinOp.eql 3 (Operand.tmp 28) (Operand.const (Value.int IntKind.i64 0)) 3, type := 4, pos := "value.go:11", after := #[{ on := 11, ground := Ground.data }, { on := 8, ground := Ground.guard }], guard := some (8, true) } : Oper)) (v := undef) rfl (by kernel_rfl) (by kernel_rfl) (by kernel_rfl) (fun _ _ _ h => h) (Or.inr ⟨by rfl, rfl⟩) (by assumption) ?_
      (try simp only [Act.put, List.setIfInBounds_toArray, List.set_cons_zero, List.set_cons_succ])
      refine wpAnyH_take (i := 13) (oi := ({ dst := some 30, op := Op.pick (Operand.tmp 25) (Operand.tmp 29) (Operand.const (Value.bool false)), type := 4, pos := "value.go:11", after := #[{ on := 8, ground := Ground.data }, { on := 12, ground := Ground.data }], guard := none } : Oper)) (v := ?_) rfl (by kernel_rfl) (by kernel_rfl) (by kernel_rfl) (fun _ _ _ h => h) (Or.inl ⟨by rfl, ?_⟩) (by assumption) ?_
      rotate_left
      · (intro w hSw; (try dsimp only at hSw); go_simp; (try with_reducible rfl))
      (try simp only [Act.put, List.setIfInBounds_toArray, List.set_cons_zero, List.set_cons_succ])
      refine wpAnyH_take (i := 14) (oi := ({ dst := some 31, op := Op.move (Operand.tmp 30), type := 4, pos := "value.go:11", after := #[{ on := 13, ground := Ground.data }, { on := 8, ground := Ground.chain }], guard := none } : Oper)) (v := ?_) rfl (by kernel_rfl) (by kernel_rfl) (by kernel_rfl) (fun _ _ _ h => h) (Or.inl ⟨by rfl, ?_⟩) (by assumption) ?_
      rotate_left
      · (intro w hSw; (try dsimp only at hSw); go_simp; (try with_reducible rfl))
      (try simp only [Act.put, List.setIfInBounds_toArray, List.set_cons_zero, List.set_cons_succ])
      refine wpAnyH_take (i := 15) (oi := ({ dst := some 32, op := Op.load 26 (Operand.tmp 1), type := 26, pos := "value.go:11", after := #[{ on := 14, ground := Ground.guard }], guard := some (14, true) } : Oper)) (v := undef) rfl (by kernel_rfl) (by kernel_rfl) (by kernel_rfl) (fun _ _ _ h => h) (Or.inr ⟨by rfl, rfl⟩) (by assumption) ?_
      (try simp only [Act.put, List.setIfInBounds_toArray, List.set_cons_zero, List.set_cons_succ])
      refine wpAnyH_take (i := 16) (oi := ({ dst := some 33, op := Op.call { callee := Callee.value (Operand.func 36), args := #[Operand.tmp 32], argTypes := #[26] }, type := 4, pos := "value.go:11", after := #[{ on := 15, ground := Ground.data }, { on := 14, ground := Ground.chain }, { on := 14, ground := Ground.guard }], guard := some (14, true) } : Oper)) (v := undef) rfl (by kernel_rfl) (by kernel_rfl) (by kernel_rfl) (fun _ _ _ h => h) (Or.inr ⟨by rfl, rfl⟩) (by assumption) ?_
      (try simp only [Act.put, List.setIfInBounds_toArray, List.set_cons_zero, List.set_cons_succ])
      refine wpAnyH_take (i := 17) (oi := ({ dst := some 34, op := Op.pick (Operand.tmp 31) (Operand.tmp 33) (Operand.const (Value.bool false)), type := 4, pos := "value.go:11", after := #[{ on := 14, ground := Ground.data }, { on := 16, ground := Ground.data }, { on := 18, ground := Ground.gcOnly Departure.lateStores }], guard := none } : Oper)) (v := ?_) rfl (by kernel_rfl) (by kernel_rfl) (by kernel_rfl) (fun _ _ _ h => h) (Or.inl ⟨by rfl, ?_⟩) (by assumption) ?_
      rotate_left
      · (intro w hSw; (try dsimp only at hSw); go_simp; (try with_reducible rfl))
      (try simp only [Act.put, List.setIfInBounds_toArray, List.set_cons_zero, List.set_cons_succ])
      refine wpAnyH_ready (rs := [18]) (by kernel_rfl) (by simp) ?_
      refine AllReadyH.cons (o := ({ dst := none, op := Op.store 31 (Operand.tmp 2) (Operand.tmp 17), type := 0, pos := "value.go:11", after := #[{ on := 0, ground := Ground.data }, { on := 16, ground := Ground.chain }, { on := 0, ground := Ground.phase }, { on := 1, ground := Ground.textOnly Departure.lateStores }, { on := 2, ground := Ground.textOnly Departure.lateStores }, { on := 3, ground := Ground.textOnly Departure.lateStores }, { on := 4, ground := Ground.textOnly Departure.lateStores }, { on := 5, ground := Ground.textOnly Departure.lateStores }, { on := 6, ground := Ground.textOnly Departure.lateStores }, { on := 7, ground := Ground.textOnly Departure.lateStoresUnsure }, { on := 8, ground := Ground.textOnly Departure.lateStores }, { on := 9, ground := Ground.textOnly Departure.lateStores }, { on := 10, ground := Ground.textOnly Departure.lateStores }, { on := 11, ground := Ground.textOnly Departure.lateStoresUnsure }, { on := 12, ground := Ground.textOnly Departure.lateStores }, { on := 13, ground := Ground.textOnly Departure.lateStores }, { on := 14, ground := Ground.textOnly Departure.lateStores }, { on := 15, ground := Ground.textOnly Departure.lateStores }, { on := 16, ground := Ground.textOnly Departure.lateStoresUnsure }, { on := 17, ground := Ground.textOnly Departure.lateStores }], guard := none } : Oper)) rfl (fun K hK => ?_) AllReadyH.nil
      go_simp
      refine hK.out _ _ ?_ (fun hHeld3 => ?_)
      · (try dsimp only); exact keepI (by repeat (first | assumption | apply Fr.drew | (refine Fr.setCell ?_ (Or.inl (by first | rfl | (simp; done))) _) | apply Fr.alloc)) hgS hbS d0 d1 d2 e0 e1 e2 e3 e4 e5 e6 e7 e8
      clear hK K hHeld2
      (try simp only [Act.put, List.setIfInBounds_toArray, List.set_cons_zero, List.set_cons_succ])
      refine wpAnyH_take (i := 19) (oi := ({ dst := some 3, op := Op.assign (Operand.tmp 34), type := 4, pos := "value.go:11", after := #[{ on := 17, ground := Ground.data }, { on := 18, ground := Ground.chain }, { on := 0, ground := Ground.phase }, { on := 1, ground := Ground.phase }, { on := 2, ground := Ground.phase }, { on := 3, ground := Ground.phase }, { on := 4, ground := Ground.phase }, { on := 5, ground := Ground.phase }, { on := 6, ground := Ground.phase }, { on := 7, ground := Ground.phase }, { on := 8, ground := Ground.phase }, { on := 9, ground := Ground.phase }, { on := 10, ground := Ground.phase }, { on := 11, ground := Ground.phase }, { on := 12, ground := Ground.phase }, { on := 13, ground := Ground.phase }, { on := 14, ground := Ground.phase }, { on := 15, ground := Ground.phase }, { on := 16, ground := Ground.phase }, { on := 17, ground := Ground.phase }, { on := 18, ground := Ground.phase }], guard := none } : Oper)) (v := ?_) rfl (by kernel_rfl) (by kernel_rfl) (by kernel_rfl) (fun _ _ _ h => h) (Or.inl ⟨by rfl, ?_⟩) (by assumption) ?_
      rotate_left
      · (intro w hSw; (try dsimp only at hSw); go_simp; (try with_reducible rfl))
      (try simp only [Act.put, List.setIfInBounds_toArray, List.set_cons_zero, List.set_cons_succ])
      refine wpAnyH_done (by kernel_rfl) ?_ _
      refine NoPanic.normal ?_
      go_wp2
      have hff : Fr (· = w.heap.size + 1) wc (((w1.setCell ⟨w.heap.size + 1, 0, none⟩ (.bool nb)).setCell ⟨w.heap.size + 1, 1, none⟩ (.slice A2 l.length c2)).setCell ⟨w.heap.size + 1, 2, none⟩ (.slice A3 1 c3)) :=
        ((hf1.setCell (Or.inl rfl) _).setCell (Or.inl rfl) _).setCell (Or.inl rfl) _
      refine bodyPost_ret (v := .tuple #[.agg #[.bool nb, .slice A2 l.length c2, .slice A3 1 c3], .bool false]) (by simp [results, Tryz.results23, go_sem, qa1, m0, m1, m2, hu1, huc]) rfl ⟨_, _, rfl, ?_, ?_, ?_⟩
      · exact Kd.V_mono (C_fr HV.out hff (fun k hk => by omega)) (fun k hk => by omega)
      · exact Kd.V_mono (C_fr HV3.out hff (fun k hk => by omega)) (fun k hk => by omega)
      · exact HBw.out.trans (hff.toBelow (by omega) (fun k hk => by omega))
    | true =>
      by_cases hd : ds.length = 0
      · have hd2 : ((ds.length : Int) == 0) = true := beq_iff_eq.mpr (by omega)
        have hd3 : (ds.length == 0) = true := beq_iff_eq.mpr hd
        obtain rfl : ok = rr := by rw [HOK.out, hd3]; rfl
        clear hd hd3
        go_upto_region 4 with fail
        go_region_held3 (fun w' => w'.cell? ⟨g, 0, none⟩ = some (.bool nb) ∧ w'.cell? ⟨g, 1, none⟩ = some (.slice A2 l.length c2) ∧ w'.cell? ⟨g, 2, none⟩ = some (.slice A3 1 c3) ∧ w'.cell? ⟨w.heap.size, 0, none⟩ = some (.int .i64 3) ∧ w'.cell? ⟨w.heap.size, 1, none⟩ = some (.bool truth) ∧ w'.cell? ⟨w.heap.size, 2, none⟩ = some (.string text) ∧ w'.cell? ⟨w.heap.size, 3, none⟩ = some (.bool neg) ∧ w'.cell? ⟨w.heap.size, 4, none⟩ = some (.slice A ws.length c) ∧ w'.cell? ⟨w.heap.size, 5, none⟩ = some (.slice A5 ds.length c5) ∧ w'.cell? ⟨w.heap.size, 6, none⟩ = some (.bool im) ∧ w'.cell? ⟨w.heap.size, 7, none⟩ = some (.slice A7 l7.length c7) ∧ w'.cell? ⟨w.heap.size, 8, none⟩ = some (.slice A8 l8.length c8) ∧ Fr (· = w.heap.size + 1) wc w')
          ((exact keepI (by repeat (first | assumption | apply Fr.drew | (refine Fr.setCell ?_ (Or.inl (by first | rfl | (simp; done))) _) | apply Fr.alloc)) hgS hbS d0 d1 d2 e0 e1 e2 e3 e4 e5 e6 e7 e8))
          (first | (go_at_call 35; refine (HNu.out A2 c2 _ (Kd.C_below HRw.out (HBw.out.trans (Fr.toBelow (B := w.heap.size) (by repeat (first | assumption | apply Fr.drew | (refine Fr.setCell ?_ (Or.inl (by first | rfl | (simp; done))) _) | apply Fr.alloc)) (by have := HBw.out.size; omega) (fun k hk => by omega)))) (Kd.V_reads' (C_fr HV.out (by repeat (first | assumption | apply Fr.drew | (refine Fr.setCell ?_ (Or.inl (by first | rfl | (simp; done))) _) | apply Fr.alloc)) (fun k hk => by omega))).2.2 (Kd.V_reads' (C_fr HV.out (by repeat (first | assumption | apply Fr.drew | (refine Fr.setCell ?_ (Or.inl (by first | rfl | (simp; done))) _) | apply Fr.alloc)) (fun k hk => by omega))).2.1).mono ?_; rintro e w1 ⟨rfl, hB⟩; have hs1 := hB.size; (try simp only [World.size_alloc, World.size_drew] at hs1); have hu1 : w.heap.size + 1 < w1.heap.size := (by omega); obtain ⟨qa1, qb1⟩ := bcell hB; (try simp only [World.size_alloc, World.size_drew] at qa1 qb1); have hf1 : Fr (· = w.heap.size + 1) wc w1 := Fr.below (by repeat (first | assumption | apply Fr.drew | (refine Fr.setCell ?_ (Or.inl (by first | rfl | (simp; done))) _) | apply Fr.alloc)) hB) | (go_at_call 36; refine (HRe2.out _ (by repeat (first | assumption | apply Fr.drew | (refine Fr.setCell ?_ (Or.inl (by first | rfl | (simp; done))) _) | apply Fr.alloc))).mono ?_; rintro e w2 ⟨rfl, hB2⟩; have hs2 := hB2.size; (try simp only [World.size_alloc, World.size_drew] at hs2); have hu2 : w.heap.size + 1 < w2.heap.size := (by omega); obtain ⟨qa2, qb2⟩ := bcell hB2; (try simp only [World.size_alloc, World.size_drew] at qa2 qb2); have hf2 : Fr (· = w.heap.size + 1) wc w2 := Fr.below (by repeat (first | assumption | apply Fr.drew | (refine Fr.setCell ?_ (Or.inl (by first | rfl | (simp; done))) _) | apply Fr.alloc)) hB2))
        go_wp2
        have hff : Fr (· = w.heap.size + 1) wc (((w2.setCell ⟨w.heap.size + 1, 0, none⟩ (.bool nb)).setCell ⟨w.heap.size + 1, 1, none⟩ (.slice A2 l.length c2)).setCell ⟨w.heap.size + 1, 2, none⟩ (.slice A3 1 c3)) :=
          ((hf2.setCell (Or.inl rfl) _).setCell (Or.inl rfl) _).setCell (Or.inl rfl) _
        refine bodyPost_ret (v := .tuple #[.agg #[.bool nb, .slice A2 l.length c2, .slice A3 1 c3], .bool ok]) (by simp [results, Tryz.results23, go_sem, qa2, qa1, m0, m1, m2, hu1, huc]) rfl ⟨_, _, rfl, ?_, ?_, ?_⟩
        · exact Kd.V_mono (C_fr HV.out hff (fun k hk => by omega)) (fun k hk => by omega)
        · exact Kd.V_mono (C_fr HV3.out hff (fun k hk => by omega)) (fun k hk => by omega)
        · exact HBw.out.trans (hff.toBelow (by omega) (fun k hk => by omega))
      · have hd2 : ((ds.length : Int) == 0) = false := beq_false_of_ne (by omega)
        have hd3 : (ds.length == 0) = false := beq_false_of_ne hd
        obtain rfl : ok = false := by rw [HOK.out, hd3]; rfl
        clear hd hd3
        go_upto_region 4 with fail
        refine wp_region_noPanic ?_
        refine wp_region_held_drew (S := (fun w' => w'.cell? ⟨g, 0, none⟩ = some (.bool nb) ∧ w'.cell? ⟨g, 1, none⟩ = some (.slice A2 l.length c2) ∧ w'.cell? ⟨g, 2, none⟩ = some (.slice A3 1 c3) ∧ w'.cell? ⟨w.heap.size, 0, none⟩ = some (.int .i64 3) ∧ w'.cell? ⟨w.heap.size, 1, none⟩ = some (.bool truth) ∧ w'.cell? ⟨w.heap.size, 2, none⟩ = some (.string text) ∧ w'.cell? ⟨w.heap.size, 3, none⟩ = some (.bool neg) ∧ w'.cell? ⟨w.heap.size, 4, none⟩ = some (.slice A ws.length c) ∧ w'.cell? ⟨w.heap.size, 5, none⟩ = some (.slice A5 ds.length c5) ∧ w'.cell? ⟨w.heap.size, 6, none⟩ = some (.bool im) ∧ w'.cell? ⟨w.heap.size, 7, none⟩ = some (.slice A7 l7.length c7) ∧ w'.cell? ⟨w.heap.size, 8, none⟩ = some (.slice A8 l8.length c8) ∧ Fr (· = w.heap.size + 1) wc w')) (by kernel_rfl) ?_ (fun hHeld => ?_)
        · (try dsimp only); exact keepI (by repeat (first | assumption | apply Fr.drew | (refine Fr.setCell ?_ (Or.inl (by first | rfl | (simp; done))) _) | apply Fr.alloc)) hgS hbS d0 d1 d2 e0 e1 e2 e3 e4 e5 e6 e7 e8
        refine wpAnyH_take (i := 0) (oi := ({ dst := some 17, op := Op.load 31 (Operand.tmp 4), type := 31, pos := "value.go:11", after := #[], guard := none } : Oper)) (v := ?_) rfl (by kernel_rfl) (by kernel_rfl) (by kernel_rfl) (fun _ _ _ h => h) (Or.inl ⟨by rfl, ?_⟩) (by assumption) ?_
        rotate_left
        · (intro w hSw; (try dsimp only at hSw); go_simp; (try with_reducible rfl))
        (try simp only [Act.put, List.setIfInBounds_toArray, List.set_cons_zero, List.set_cons_succ])
        refine wpAnyH_take (i := 1) (oi := ({ dst := some 18, op := Op.fieldAddr 26 (Operand.tmp 1) 3, type := 0, pos := "value.go:11", after := #[], guard := none } : Oper)) (v := ?_) rfl (by kernel_rfl) (by kernel_rfl) (by kernel_rfl) (fun _ _ _ h => h) (Or.inl ⟨by rfl, ?_⟩) (by assumption) ?_
        rotate_left
        · (intro w hSw; (try dsimp only at hSw); go_simp; (try with_reducible rfl))
        (try simp only [Act.put, List.setIfInBounds_toArray, List.set_cons_zero, List.set_cons_succ])
        refine wpAnyH_take (i := 2) (oi := ({ dst := some 19, op := Op.load 24 (Operand.tmp 18), type := 24, pos := "value.go:11", after := #[{ on := 1, ground := Ground.data }], guard := none } : Oper)) (v := ?_) rfl (by kernel_rfl) (by kernel_rfl) (by kernel_rfl) (fun _ _ _ h => h) (Or.inl ⟨by rfl, ?_⟩) (by assumption) ?_
        rotate_left
        · (intro w hSw; (try dsimp only at hSw); go_simp; (try with_reducible rfl))
        (try simp only [Act.put, List.setIfInBounds_toArray, List.set_cons_zero, List.set_cons_succ])
        refine wpAnyH_take (i := 3) (oi := ({ dst := some 20, op := Op.fieldAddr 31 (Operand.tmp 4) 0, type := 0, pos := "value.go:11", after := #[], guard := none } : Oper)) (v := ?_) rfl (by kernel_rfl) (by kernel_rfl) (by kernel_rfl) (fun _ _ _ h => h) (Or.inl ⟨by rfl, ?_⟩) (by assumption) ?_
        rotate_left
        · (intro w hSw; (try dsimp only at hSw); go_simp; (try with_reducible rfl))
        (try simp only [Act.put, List.setIfInBounds_toArray, List.set_cons_zero, List.set_cons_succ])
        refine wpAnyH_take (i := 4) (oi := ({ dst := some 21, op := Op.load 4 (Operand.tmp 20), type := 4, pos := "value.go:11", after := #[{ on := 3, ground := Ground.data }], guard := none } : Oper)) (v := ?_) rfl (by kernel_rfl) (by kernel_rfl) (by kernel_rfl) (fun _ _ _ h => h) (Or.inl ⟨by rfl, ?_⟩) (by assumption) ?_
        rotate_left
        · (intro w hSw; (try dsimp only at hSw); go_simp; (try with_reducible rfl))
        (try simp only [Act.put, List.setIfInBounds_toArray, List.set_cons_zero, List.set_cons_succ])
        refine wpAnyH_take (i := 5) (oi := ({ dst := some 22, op := Op.fieldAddr 31 (Operand.tmp 4) 1, type := 0, pos := "value.go:11", after := #[], guard := none } : Oper)) (v := ?_) rfl (by kernel_rfl) (by kernel_rfl) (by kernel_rfl) (fun _ _ _ h => h) (Or.inl ⟨by rfl, ?_⟩) (by assumption) ?_
        rotate_left
        · (intro w hSw; (try dsimp only at hSw); go_simp; (try with_reducible rfl))
        (try simp only [Act.put, List.setIfInBounds_toArray, List.set_cons_zero, List.set_cons_succ])
        refine wpAnyH_take (i := 6) (oi := ({ dst := some 23, op := Op.load 29 (Operand.tmp 22), type := 29, pos := "value.go:11", after := #[{ on := 5, ground := Ground.data }], guard := none } : Oper)) (v := ?_) rfl (by kernel_rfl) (by kernel_rfl) (by kernel_rfl) (fun _ _ _ h => h) (Or.inl ⟨by rfl, ?_⟩) (by assumption) ?_
        rotate_left
        · (intro w hSw; (try dsimp only at hSw); go_simp; (try with_reducible rfl))
        (try simp only [Act.put, List.setIfInBounds_toArray, List.set_cons_zero, List.set_cons_succ])
        refine wpAnyH_ready (rs := [7]) (by kernel_rfl) (by simp) ?_
        refine AllReadyH.cons (o := ({ dst := some 24, op := Op.call { callee := Callee.value (Operand.func 35), args := #[Operand.tmp 19, Operand.tmp 21, Operand.tmp 23], argTypes := #[24, 4, 29] }, type := 4, pos := "value.go:11", after := #[{ on := 2, ground := Ground.data }, { on := 4, ground := Ground.data }, { on := 6, ground := Ground.data }], guard := none } : Oper)) rfl (fun K hK => ?_) AllReadyH.nil
        go_simp
        go_at_call 35; refine (HNu.out A2 c2 _ (Kd.C_below HRw.out (HBw.out.trans (Fr.toBelow (B := w.heap.size) (by repeat (first | assumption | apply Fr.drew | (refine Fr.setCell ?_ (Or.inl (by first | rfl | (simp; done))) _) | apply Fr.alloc)) (by have := HBw.out.size; omega) (fun k hk => by omega)))) (Kd.V_reads' (C_fr HV.out (by repeat (first | assumption | apply Fr.drew | (refine Fr.setCell ?_ (Or.inl (by first | rfl | (simp; done))) _) | apply Fr.alloc)) (fun k hk => by omega))).2.2 (Kd.V_reads' (C_fr HV.out (by repeat (first | assumption | apply Fr.drew | (refine Fr.setCell ?_ (Or.inl (by first | rfl | (simp; done))) _) | apply Fr.alloc)) (fun k hk => by omega))).2.1).mono ?_; rintro e w1 ⟨rfl, hB⟩; have hs1 := hB.size; (try simp only [World.size_alloc, World.size_drew] at hs1); have hu1 : w.heap.size + 1 < w1.heap.size := (by omega); obtain ⟨qa1, qb1⟩ := bcell hB; (try simp only [World.size_alloc, World.size_drew] at qa1 qb1); have hf1 : Fr (· = w.heap.size + 1) wc w1 := Fr.below (by repeat (first | assumption | apply Fr.drew | (refine Fr.setCell ?_ (Or.inl (by first | rfl | (simp; done))) _) | apply Fr.alloc)) hB
        (try go_wp2_with fail)
        refine hK.out _ _ ?_ (fun hHeld2 => ?_)
        · (try dsimp only); exact keepI (by repeat (first | assumption | apply Fr.drew | (refine Fr.setCell ?_ (Or.inl (by first | rfl | (simp; done))) _) | apply Fr.alloc)) hgS hbS d0 d1 d2 e0 e1 e2 e3 e4 e5 e6 e7 e8
        clear hK K hHeld
        (try simp only [Act.put, List.setIfInBounds_toArray, List.set_cons_zero, List.set_cons_succ])
        refine wpAnyH_take (i := 8) (oi := ({ dst := some 25, op := Op.move (Operand.tmp 24), type := 4, pos := "value.go:11", after := #[{ on := 7, ground := Ground.data }, { on := 7, ground := Ground.chain }], guard := none } : Oper)) (v := ?_) rfl (by kernel_rfl) (by kernel_rfl) (by kernel_rfl) (fun _ _ _ h => h) (Or.inl ⟨by rfl, ?_⟩) (by assumption) ?_
        rotate_left
        · (intro w hSw; (try dsimp only at hSw); go_simp; (try with_reducible rfl))
        (try simp only [Act.put, List.setIfInBounds_toArray, List.set_cons_zero, List.set_cons_succ])
        refine wpAnyH_take (i := 9) (oi := ({ dst := some 26, op := Op.fieldAddr 26 (Operand.tmp 1) 4, type := 0, pos := "value.go:11", after := #[{ on := 8, ground := Ground.guard }], guard := some (8, true) } : Oper)) (v := ?_) rfl (by kernel_rfl) (by kernel_rfl) (by kernel_rfl) (fun _ _ _ h => h) (Or.inl ⟨by rfl, ?_⟩) (by assumption) ?_
        rotate_left
        · (intro w hSw; (try dsimp only at hSw); go_simp; (try with_reducible rfl))
        (try simp only [Act.put, List.setIfInBounds_toArray, List.set_cons_zero, List.set_cons_succ])
        refine wpAnyH_take (i := 10) (oi := ({ dst := some 27, op := Op.load 22 (Operand.tmp 26), type := 22, pos := "value.go:11", after := #[{ on := 9, ground := Ground.data }, { on := 8, ground := Ground.guard }], guard := some (8, true) } : Oper)) (v := ?_) rfl (by kernel_rfl) (by kernel_rfl) (by kernel_rfl) (fun _ _ _ h => h) (Or.inl ⟨by rfl, ?_⟩) (by assumption) ?_
        rotate_left
        · (intro w hSw; (try dsimp only at hSw); go_simp; (try with_reducible rfl))
        (try simp only [Act.put, List.setIfInBounds_toArray, List.set_cons_zero, List.set_cons_succ])
        refine wpAnyH_take (i := 11) (oi := ({ dst := some 28, op := Op.call { callee := Callee.builtin Builtin.len, args := #[Operand.tmp 27], argTypes := #[22] }, type := 3, pos := "value.go:11", after := #[{ on := 10, ground := Ground.data }, { on := 8, ground := Ground.guard }], guard := some (8, true) } : Oper)) (v := ?_) rfl (by kernel_rfl) (by kernel_rfl) (by kernel_rfl) (fun _ _ _ h => h) (Or.inl ⟨by rfl, ?_⟩) (by assumption) ?_
        rotate_left
        · (intro w hSw; (try dsimp only at hSw); go_simp; (try with_reducible rfl))
        (try simp only [Act.put, List.setIfInBounds_toArray, List.set_cons_zero, List.set_cons_succ])
        refine wpAnyH_take (i := 12) (oi := ({ dst := some 29, op := Op.binOp BinOp.eql 3 (Operand.tmp 28) (Operand.const (Value.int IntKind.i64 0)) 3, type := 4, pos := "value.go:11", after := #[{ on := 11, ground := Ground.data }, { on := 8, ground := Ground.guard }], guard := some (8, true) } : Oper)) (v := ?_) rfl (by kernel_rfl) (by kernel_rfl) (by kernel_rfl) (fun _ _ _ h => h) (Or.inl ⟨by rfl, ?_⟩) (by assumption) ?_
        rotate_left
        · (intro w hSw; (try dsimp only at hSw); go_simp; (try with_reducible rfl))
        (try simp only [Act.put, List.setIfInBounds_toArray, List.set_cons_zero, List.set_cons_succ])
        refine wpAnyH_take (i := 13) (oi := ({ dst := some 30, op := Op.pick (Operand.tmp 25) (Operand.tmp 29) (Operand.const (Value.bool false)), type := 4, pos := "value.go:11", after := #[{ on := 8, ground := Ground.data }, { on := 12, ground := Ground.data }], guard := none } : Oper)) (v := ?_) rfl (by kernel_rfl) (by kernel_rfl) (by kernel_rfl) (fun _ _ _ h => h) (Or.inl ⟨by rfl, ?_⟩) (by assumption) ?_
        rotate_left
        · (intro w hSw; (try dsimp only at hSw); go_simp; (try with_reducible rfl))
        (try simp only [Act.put, List.setIfInBounds_toArray, List.set_cons_zero, List.set_cons_succ])
        refine wpAnyH_take (i := 14) (oi := ({ dst := some 31, op := Op.move (Operand.tmp 30), type := 4, pos := "value.go:11", after := #[{ on := 13, ground := Ground.data }, { on := 8, ground := Ground.chain }], guard := none } : Oper)) (v := ?_) rfl (by kernel_rfl) (by kernel_rfl) (by kernel_rfl) (fun _ _ _ h => h) (Or.inl ⟨by rfl, ?_⟩) (by assumption) ?_
        rotate_left
        · (intro w hSw; (try dsimp only at hSw); go_simp; (try with_reducible rfl))
        (try simp only [Act.put, List.setIfInBounds_toArray, List.set_cons_zero, List.set_cons_succ])
        refine wpAnyH_take (i := 15) (oi := ({ dst := some 32, op := Op.load 26 (Operand.tmp 1), type := 26, pos := "value.go:11", after := #[{ on := 14, ground := Ground.guard }], guard := some (14, true) } : Oper)) (v := undef) rfl (by kernel_rfl) (by kernel_rfl) (by kernel_rfl) (fun _ _ _ h => h) (Or.inr ⟨by rfl, rfl⟩) (by assumption) ?_
        (try simp only [Act.put, List.setIfInBounds_toArray, List.set_cons_zero, List.set_cons_succ])
        refine wpAnyH_take (i := 16) (oi := ({ dst := some 33, op := Op.call { callee := Callee.value (Operand.func 36), args := #[Operand.tmp 32], argTypes := #[26] }, type := 4, pos := "value.go:11", after := #[{ on := 15, ground := Ground.data }, { on := 14, ground := Ground.chain }, { on := 14, ground := Ground.guard }], guard := some (14, true) } : Oper)) (v := undef) rfl (by kernel_rfl) (by kernel_rfl) (by kernel_rfl) (fun _ _ _ h => h) (Or.inr ⟨by rfl, rfl⟩) (by assumption) ?_
        (try simp only [Act.put, List.setIfInBounds_toArray, List.set_cons_zero, List.set_cons_succ])
        refine wpAnyH_take (i := 17) (oi := ({ dst := some 34, op := Op.pick (Operand.tmp 31) (Operand.tmp 33) (Operand.const (Value.bool false)), type := 4, pos := "value.go:11", after := #[{ on := 14, ground := Ground.data }, { on := 16, ground := Ground.data }, { on := 18, ground := Ground.gcOnly Departure.lateStores }], guard := none } : Oper)) (v := ?_) rfl (by kernel_rfl) (by kernel_rfl) (by kernel_rfl) (fun _ _ _ h => h) (Or.inl ⟨by rfl, ?_⟩) (by assumption) ?_
        rotate_left
        · (intro w hSw; (try dsimp only at hSw); go_simp; (try with_reducible rfl))
        (try simp only [Act.put, List.setIfInBounds_toArray, List.set_cons_zero, List.set_cons_succ])
        refine wpAnyH_ready (rs := [18]) (by kernel_rfl) (by simp) ?_
        refine AllReadyH.cons (o := ({ dst := none, op := Op.store 31 (Operand.tmp 2) (Operand.tmp 17), type := 0, pos := "value.go:11", after := #[{ on := 0, ground := Ground.data }, { on := 16, ground := Ground.chain }, { on := 0, ground := Ground.phase }, { on := 1, ground := Ground.textOnly Departure.lateStores }, { on := 2, ground := Ground.textOnly Departure.lateStores }, { on := 3, ground := Ground.textOnly Departure.lateStores }, { on := 4, ground := Ground.textOnly Departure.lateStores }, { on := 5, ground := Ground.textOnly Departure.lateStores }, { on := 6, ground := Ground.textOnly Departure.lateStores }, { on := 7, ground := Ground.textOnly Departure.lateStoresUnsure }, { on := 8, ground := Ground.textOnly Departure.lateStores }, { on := 9, ground := Ground.textOnly Departure.lateStores }, { on := 10, ground := Ground.textOnly Departure.lateStores }, { on := 11, ground := Ground.textOnly Departure.lateStoresUnsure }, { on := 12, ground := Ground.textOnly Departure.lateStores }, { on := 13, ground := Ground.textOnly Departure.lateStores }, { on := 14, ground := Ground.textOnly Departure.lateStores }, { on := 15, ground := Ground.textOnly Departure.lateStores }, { on := 16, ground := Ground.textOnly Departure.lateStoresUnsure }, { on := 17, ground := Ground.textOnly Departure.lateStores }], guard := none } : Oper)) rfl (fun K hK => ?_) AllReadyH.nil
        go_simp
        refine hK.out _ _ ?_ (fun hHeld3 => ?_)
        · (try dsimp only); exact keepI (by repeat (first | assumption | apply Fr.drew | (refine Fr.setCell ?_ (Or.inl (by first | rfl | (simp; done))) _) | apply Fr.alloc)) hgS hbS d0 d1 d2 e0 e1 e2 e3 e4 e5 e6 e7 e8
        clear hK K hHeld2
        (try simp only [Act.put, List.setIfInBounds_toArray, List.set_cons_zero, List.set_cons_succ])
        refine wpAnyH_take (i := 19) (oi := ({ dst := some 3, op := Op.assign (Operand.tmp 34), type := 4, pos := "value.go:11", after := #[{ on := 17, ground := Ground.data }, { on := 18, ground := Ground.chain }, { on := 0, ground := Ground.phase }, { on := 1, ground := Ground.phase }, { on := 2, ground := Ground.phase }, { on := 3, ground := Ground.phase }, { on := 4, ground := Ground.phase }, { on := 5, ground := Ground.phase }, { on := 6, ground := Ground.phase }, { on := 7, ground := Ground.phase }, { on := 8, ground := Ground.phase }, { on := 9, ground := Ground.phase }, { on := 10, ground := Ground.phase }, { on := 11, ground := Ground.phase }, { on := 12, ground := Ground.phase }, { on := 13, ground := Ground.phase }, { on := 14, ground := Ground.phase }, { on := 15, ground := Ground.phase }, { on := 16, ground := Ground.phase }, { on := 17, ground := Ground.phase }, { on := 18, ground := Ground.phase }], guard := none } : Oper)) (v := ?_) rfl (by kernel_rfl) (by kernel_rfl) (by kernel_rfl) (fun _ _ _ h => h) (Or.inl ⟨by rfl, ?_⟩) (by assumption) ?_
        rotate_left
        · (intro w hSw; (try dsimp only at hSw); go_simp; (try with_reducible rfl))
        (try simp only [Act.put, List.setIfInBounds_toArray, List.set_cons_zero, List.set_cons_succ])
        refine wpAnyH_done (by kernel_rfl) ?_ _
        refine NoPanic.normal ?_
        go_wp2
        have hff : Fr (· = w.heap.size + 1) wc (((w1.setCell ⟨w.heap.size + 1, 0, none⟩ (.bool nb)).setCell ⟨w.heap.size + 1, 1, none⟩ (.slice A2 l.length c2)).setCell ⟨w.heap.size + 1, 2, none⟩ (.slice A3 1 c3)) :=
          ((hf1.setCell (Or.inl rfl) _).setCell (Or.inl rfl) _).setCell (Or.inl rfl) _
        refine bodyPost_ret (v := .tuple #[.agg #[.bool nb, .slice A2 l.length c2, .slice A3 1 c3], .bool false]) (by simp [results, Tryz.results23, go_sem, qa1, m0, m1, m2, hu1, huc]) rfl ⟨_, _, rfl, ?_, ?_, ?_⟩
        · exact Kd.V_mono (C_fr HV.out hff (fun k hk => by omega)) (fun k hk => by omega)
        · exact Kd.V_mono (C_fr HV3.out hff (fun k hk => by omega)) (fun k hk => by omega)
        · exact HBw.out.trans (hff.toBelow (by omega) (fun k hk => by omega))
end Go.Proofs.YtgpoplfgngiilaaGreatDoor
