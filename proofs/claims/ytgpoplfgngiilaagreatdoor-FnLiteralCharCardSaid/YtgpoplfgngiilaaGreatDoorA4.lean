/- spec.IsInt of an integer that is not below 0. -/
import Derived.Test.YtgpoplfgngiilaaGreatDoorA3
import Derived.Test.YtgpoplfgngiilaaGreatDoorA0
import Derived.Deep.RegionHeld3
import Derived.Lib.Strings
import Derived.Deep.DeepCutAuto
namespace Go.Proofs.YtgpoplfgngiilaaGreatDoor
open Go.RowKit Go.Proofs.YtgpoplfgngiilaaGreatDoorW.PrintWords Go.Proofs.YtgpoplfgngiilaaGreatDoorW.PrintLast Go.Proofs.YtgpoplfgngiilaaGreatDoorW.PrintMore

set_option maxHeartbeats 1000000 in
set_option maxRecDepth 100000 in
/-- spec.IsNumber at a number that is not negated. -/
theorem isNumber_calls (k : Nat) (A0 : Option Addr) (c0 : Nat) (l0 : List Int) (A2 : Option Addr) (c2 : Nat) (l2 : List Int) (r : Bool) (w : World)
    (hr0 : Kd.C (Kd.int .u64) w A0 l0.length l0) (hc0 : l0.length ≤ c0) (hr2 : Kd.C (Kd.int .i64) w A2 l2.length l2) (hc2 : l2.length ≤ c2) (h : Pr.spec_HasWords.f k l0 l2 = some r) :
    Calls Tryz.prog 35 #[.agg #[.bool false, .slice A0 l0.length c0], .bool false, .slice A2 l2.length c2] w fun e w' => e = .returned (.bool r) ∧ Below w.heap.size w w' := by
  have HB0 := Aside0.mk ((Below.refl w.heap.size w).alloc (Nat.le_refl _) (Obj.cells #[.bool false, .slice A0 l0.length c0] 24))
  have HR0 := Aside0.mk (Kd.C_below hr0 HB0.out)
  have HR2 := Aside0.mk (Kd.C_below hr2 HB0.out)
  have HC0 := Aside0.mk hc0
  have HC2 := Aside0.mk hc2
  have H := Aside0.mk h
  clear hr0 hr2 hc0 hc2 h
  go_enter Tryz.func35, Tryz.ntmps35
  go_wp2_with (first | (go_at_call 55; go_must (refine (Pr.spec_HasWords.calls k A0 c0 l0 A2 c2 l2 r _ HR0.out HC0.out HR2.out HC2.out H.out).mono ?_); rintro e w1 ⟨rfl, hB⟩; have hB' := Aside0.mk hB; clear hB) | go_in)
  go_ret
  exact ⟨rfl, HB0.out.trans (hB'.out.mono (by simp))⟩

theorem small_one : Pr.spec_Small.f 2 1 = some [1] := by
  simp [Pr.spec_Small.f, Pr.spec_Small.l0, wrap64]

set_option maxHeartbeats 1000000 in
set_option maxRecDepth 100000 in
/-- spec.Whole of a number that is not negated. -/
theorem whole_calls (A : Option Addr) (c : Nat) (n : Nat) (w : World) :
    Calls Tryz.prog 20 #[.bool false, .slice A n c] w fun e w' => ∃ v, e = .returned (.agg #[.bool false, .slice A n c, v]) ∧ Kd.R (Kd.int .i64) 3 w' w.heap.size (fun _ => True) v [1] ∧ Below w.heap.size w w' := by
  have HB0 := Aside0.mk ((Below.refl w.heap.size w).alloc (Nat.le_refl _) (Obj.cells #[.bool false, .slice none 0 0, .slice none 0 0] 31))
  go_enter Tryz.func20, Tryz.ntmps20
  go_wp2_with (first | (go_at_call 28; go_must (refine (Pr.spec_Small.calls 2 1 [1] _ small_one).mono ?_); rintro e w1 ⟨v, rfl, hR, hB⟩; have hR' := Aside0.mk hR; have hB' := Aside0.mk hB; have hs := hB.size; simp only [World.size_alloc] at hs; obtain ⟨q1, q2⟩ := bcell hB; simp only [World.size_alloc] at q1 q2; have hz : w.heap.size < w1.heap.size := (by omega); clear hR hB; obtain ⟨Av, cv, rfl, -⟩ := Kd.R_reads hR'.out) | go_in)
  have e0 : w1.cell? ⟨w.heap.size, 0, none⟩ = some (.bool false) := (q1 w.heap.size 0 (by omega)).trans (by go_simp)
  have e1 : w1.cell? ⟨w.heap.size, 1, none⟩ = some (.slice none 0 0) := (q1 w.heap.size 1 (by omega)).trans (by go_simp)
  have e2 : w1.cell? ⟨w.heap.size, 2, none⟩ = some (.slice none 0 0) := (q1 w.heap.size 2 (by omega)).trans (by go_simp)
  refine bodyPost_ret (v := .agg #[.bool false, .slice A n c, .slice Av 1 cv]) (by simp [results, Tryz.results20, go_sem, e0, e1, e2]) rfl ⟨_, rfl, ?_, ?_⟩
  · refine R_after (N := w.heap.size + 1) hR'.out (by simp) (by simp) ?_
    intro k h1 h2
    repeat (refine hk_set (by simp; omega) ?_)
    rfl
  · have hb0 : Below w.heap.size w w1 := HB0.out.trans (hB'.out.mono (by simp))
    repeat (refine Below.setCell ?_ (by simp) _)
    exact hb0

/-- A fraction of an integer in a block of its own. -/
def NewRatio (base g : Nat) (l : List Int) (W : World) : Prop :=
  base ≤ g ∧ ∃ A2 c2 A3 c3, W.heap[g]? = some (.cells #[.bool false, .slice A2 l.length c2, .slice A3 1 c3] 31 (0, 0)) ∧ Kd.V (Kd.int .i64) 3 W base (fun k_ => base ≤ k_ ∧ k_ ≠ g) (.slice A2 l.length c2) l ∧ Kd.V (Kd.int .i64) 3 W base (fun k_ => base ≤ k_ ∧ k_ ≠ g) (.slice A3 1 c3) [1]

theorem newRatio_mk {base g : Nat} {l : List Int} {W w2 : World} {A2 A3 : Option Addr} {c2 c3 : Nat} (hg : base ≤ g) (hh : W.heap[g]? = some (.cells #[.bool false, .slice A2 l.length c2, .slice A3 1 c3] 31 (0, 0)))
    (hV : Kd.V (Kd.int .i64) 3 w2 base (fun k_ => base ≤ k_ ∧ k_ ≠ g) (.slice A2 l.length c2) l) (hR : Kd.V (Kd.int .i64) 3 w2 base (fun k_ => base ≤ k_ ∧ k_ ≠ g) (.slice A3 1 c3) [1])
    (hk : ∀ k, k < w2.heap.size → k ≠ g → W.heap[k]? = w2.heap[k]?) : NewRatio base g l W :=
  ⟨hg, A2, c2, A3, c3, hh, Kd.V_step hV (fun k h1 h2 => hk k h2 h1.2), Kd.V_step hR (fun k h1 h2 => hk k h2 h1.2)⟩

theorem keep34 {W0 W1 : World} {b : Nat} {v3 v4 : Value} (hb : Below W0.heap.size W0 W1) (hz : b < W0.heap.size) (c3 : W0.cell? ⟨b, 3, none⟩ = some v3) (c4 : W0.cell? ⟨b, 4, none⟩ = some v4) :
    W1.cell? ⟨b, 3, none⟩ = some v3 ∧ W1.cell? ⟨b, 4, none⟩ = some v4 ∧ Below W0.heap.size W0 W1 := ⟨(hb.cell (p := ⟨b, 3, none⟩) hz).trans c3, (hb.cell (p := ⟨b, 4, none⟩) hz).trans c4, hb⟩

theorem rest_int (ws : List Int) : Pr.spec_rest.f 3 false ⟨#[]⟩ false ws [] false [] [] = some true := by
  unfold Pr.spec_rest.f
  rw [if_neg (by decide), if_pos (by rw [Lib.toList_data]), if_neg (by decide), if_pos (by rfl)]
  rfl

theorem keepI {S : Nat → Prop} {W W1 : World} {g b : Nat} {x0 x1 x2 v0 v1 v2 v3 v4 v5 v6 v7 v8 : Value} (hf : Fr S W W1) (hg : ¬ S g) (hb : ¬ S b)
    (d0 : W.cell? ⟨g, 0, none⟩ = some x0) (d1 : W.cell? ⟨g, 1, none⟩ = some x1) (d2 : W.cell? ⟨g, 2, none⟩ = some x2)
    (e0 : W.cell? ⟨b, 0, none⟩ = some v0) (e1 : W.cell? ⟨b, 1, none⟩ = some v1) (e2 : W.cell? ⟨b, 2, none⟩ = some v2) (e3 : W.cell? ⟨b, 3, none⟩ = some v3) (e4 : W.cell? ⟨b, 4, none⟩ = some v4)
    (e5 : W.cell? ⟨b, 5, none⟩ = some v5) (e6 : W.cell? ⟨b, 6, none⟩ = some v6) (e7 : W.cell? ⟨b, 7, none⟩ = some v7) (e8 : W.cell? ⟨b, 8, none⟩ = some v8) :
    W1.cell? ⟨g, 0, none⟩ = some x0 ∧ W1.cell? ⟨g, 1, none⟩ = some x1 ∧ W1.cell? ⟨g, 2, none⟩ = some x2 ∧ W1.cell? ⟨b, 0, none⟩ = some v0 ∧ W1.cell? ⟨b, 1, none⟩ = some v1 ∧ W1.cell? ⟨b, 2, none⟩ = some v2 ∧ W1.cell? ⟨b, 3, none⟩ = some v3 ∧ W1.cell? ⟨b, 4, none⟩ = some v4 ∧ W1.cell? ⟨b, 5, none⟩ = some v5 ∧ W1.cell? ⟨b, 6, none⟩ = some v6 ∧ W1.cell? ⟨b, 7, none⟩ = some v7 ∧ W1.cell? ⟨b, 8, none⟩ = some v8 ∧ Fr S W W1 :=
  ⟨hf.cellv d0 hg, hf.cellv d1 hg, hf.cellv d2 hg, hf.cellv e0 hb, hf.cellv e1 hb, hf.cellv e2 hb, hf.cellv e3 hb, hf.cellv e4 hb, hf.cellv e5 hb, hf.cellv e6 hb, hf.cellv e7 hb, hf.cellv e8 hb, hf⟩

set_option maxHeartbeats 2000000 in
set_option maxRecDepth 100000 in
/-- spec.Integer of an integer that is not negated. -/
theorem integer_calls (k : Nat) (A : Option Addr) (c : Nat) (ws l : List Int) (w : World) (hr : Kd.C (Kd.int .u64) w A ws.length ws) (hc : ws.length ≤ c)
    (hOf : Pr.spec_Of.f k ws = some l) (hW : Pr.spec_HasWords.f k ws l = some true) :
    Calls Tryz.prog 23 #[.agg #[.int .i64 3, .bool false, .string ⟨#[]⟩, .bool false, .slice A ws.length c, .slice none 0 0, .bool false, .slice none 0 0, .slice none 0 0]] w
      fun e w' => ∃ u v, e = .returned (.tuple #[.agg #[.bool false, u, v], .bool true]) ∧ Kd.V (Kd.int .i64) 3 w' w.heap.size (fun k_ => w.heap.size ≤ k_) u l ∧ Kd.V (Kd.int .i64) 3 w' w.heap.size (fun k_ => w.heap.size ≤ k_) v [1] ∧ Below w.heap.size w w' := by
  obtain ⟨W0, hW0⟩ : ∃ W0, W0 = (w.alloc (Obj.cells #[.int .i64 3, .bool false, .string ⟨#[]⟩, .bool false, .slice A ws.length c, .slice none 0 0, .bool false, .slice none 0 0, .slice none 0 0] 26)).alloc (Obj.cells #[.bool false, .slice none 0 0, .slice none 0 0] 31) := ⟨_, rfl⟩
  have HB0 := Aside0.mk (show Below w.heap.size w W0 by rw [hW0]; exact ((Below.refl w.heap.size w).alloc (Nat.le_refl _) _).alloc (by simp) _)
  have c03 : W0.cell? ⟨w.heap.size, 3, none⟩ = some (.bool false) := by rw [hW0]; go_simp
  have c04 : W0.cell? ⟨w.heap.size, 4, none⟩ = some (.slice A ws.length c) := by rw [hW0]; go_simp
  have hz0 : W0.heap.size = w.heap.size + 2 := by rw [hW0]; simp
  have HZ := Aside0.mk hz0
  have HR := Aside0.mk (Kd.C_below hr HB0.out)
  have HRw := Aside0.mk hr
  have HC := Aside0.mk hc
  have HOf := Aside0.mk hOf
  have HW := Aside0.mk hW
  have HW0 := Aside0.mk hW0
  clear hr hc hOf hW hz0 hW0
  have hbz : w.heap.size < W0.heap.size := by have := HZ.out; omega
  go_enter Tryz.func23, Tryz.ntmps23
  go_upto_region 3 with fail
  rw [← HW0.out]
  go_cut [4] (fun s4 wc => ∃ g : Nat, s4 = .pointer (some ⟨g, 0, none⟩) ∧ NewRatio W0.heap.size g l wc ∧ Aside0 (Below W0.heap.size W0 wc))
  case first =>
    have hb0 := Below.refl W0.heap.size W0
    go_region_held3 (fun w' => w'.cell? ⟨w.heap.size, 3, none⟩ = some (.bool false) ∧ w'.cell? ⟨w.heap.size, 4, none⟩ = some (.slice A ws.length c) ∧ Below W0.heap.size W0 w')
      ((exact keep34 (by repeat (first | assumption | apply Below.drew | (refine Below.alloc ?_ (by first | exact Nat.le_refl _ | (simp; done) | omega | (simp; omega)) _) | (refine Below.setCell ?_ (by first | exact Nat.le_refl _ | (simp; done) | omega | (simp; omega)) _))) hbz c03 c04))
      (first | (go_at_call 15; refine (Pr.spec_Of.calls k A c ws l _ ?_ HC.out HOf.out).mono ?_; (exact Kd.C_below HR.out (by repeat (first | assumption | apply Below.drew | (refine Below.alloc ?_ (by first | exact Nat.le_refl _ | (simp; done) | omega | (simp; omega)) _) | (refine Below.setCell ?_ (by first | exact Nat.le_refl _ | (simp; done) | omega | (simp; omega)) _)))); rintro e w1 ⟨v, rfl, hV, hB⟩; have hs1 := hB.size; (try simp only [World.size_alloc, World.size_drew] at hs1); have hb1 : Below W0.heap.size W0 w1 := Below.trans (by repeat (first | assumption | apply Below.drew | (refine Below.alloc ?_ (by first | exact Nat.le_refl _ | (simp; done) | omega | (simp; omega)) _) | (refine Below.setCell ?_ (by first | exact Nat.le_refl _ | (simp; done) | omega | (simp; omega)) _))) (hB.mono (by first | exact Nat.le_refl _ | (simp; done) | omega | (simp; omega))); have ht1 := hb1.size; (try have hu1 : W0.heap.size < w1.heap.size := by omega); obtain ⟨qa1, qb1⟩ := bcell hB; (try simp only [World.size_alloc, World.size_drew] at qa1 qb1); obtain ⟨A2, c2, rfl⟩ := Kd.V_slice hV) | (go_at_call 20; refine (whole_calls _ _ _ _).mono ?_; rintro e w2 ⟨v, rfl, hR2, hB2⟩; have hs2 := hB2.size; (try simp only [World.size_alloc] at hs2); have hb2 : Below W0.heap.size W0 w2 := Below.trans (by repeat (first | assumption | apply Below.drew | (refine Below.alloc ?_ (by first | exact Nat.le_refl _ | (simp; done) | omega | (simp; omega)) _) | (refine Below.setCell ?_ (by first | exact Nat.le_refl _ | (simp; done) | omega | (simp; omega)) _))) (hB2.mono (by first | exact Nat.le_refl _ | (simp; done) | omega | (simp; omega))); have ht2 := hb2.size; obtain ⟨qa2, qb2⟩ := bcell hB2; (try simp only [World.size_alloc] at qa2 qb2); obtain ⟨A3, c3, rfl, -⟩ := Kd.R_reads hR2))
    all_goals have hVb := Kd.V_bound hV
    all_goals have hRb := Kd.R_V (base' := 0) (Kd.R_bound hR2)
    · go_wp2_with fail
      go_meet
      refine ⟨w2.heap.size, rfl, newRatio_mk (w2 := w2) ht2 (heap_alloc_new _ _) (Kd.V_mono (Kd.V_below hVb hB2) (fun k hk => ?_)) (Kd.V_mono hRb (fun k hk => ?_)) (fun k h1 h2 => hk_alloc _ h1 rfl), ⟨hb2.alloc ht2 _⟩⟩
      · simp only [World.size_drew] at hk; omega
      · omega
    · go_wp2_with fail
      go_meet
      refine ⟨w1.heap.size, rfl, newRatio_mk (w2 := w2) ht1 (blk_put (blk_put (blk_put ((hB2.block _ (by simp)).trans (heap_alloc_new _ _)) 0 _ rfl) 1 _ rfl) 2 _ rfl) (Kd.V_mono (Kd.V_below (Kd.V_alloc hVb _) hB2) (fun k hk => ?_)) (Kd.V_mono hRb (fun k hk => ?_)) (fun k h1 h2 => hk_set h2 (hk_set h2 (hk_set h2 rfl))), ⟨((hb2.setCell ht1 _).setCell ht1 _).setCell ht1 _⟩⟩
      · simp only [World.size_drew] at hk; omega
      · simp only [World.size_alloc] at hk; omega
    · go_wp2_with fail
      go_meet
      refine ⟨W0.heap.size, rfl, newRatio_mk (w2 := w2) (Nat.le_refl _) (blk_put (blk_put (blk_put ((hB2.block _ hu1).trans ((hB.block _ (by simp)).trans (heap_alloc_new _ _))) 0 _ rfl) 1 _ rfl) 2 _ rfl) (Kd.V_mono (Kd.V_below hVb hB2) (fun k hk => ?_)) (Kd.V_mono hRb (fun k hk => ?_)) (fun k h1 h2 => hk_set h2 (hk_set h2 (hk_set h2 rfl))), ⟨((hb2.setCell (Nat.le_refl _) _).setCell (Nat.le_refl _) _).setCell (Nat.le_refl _) _⟩⟩
      · simp only [World.size_drew, World.size_alloc] at hk; omega
      · omega
  case rest =>
    obtain ⟨g, rfl, HN, HBc⟩ := hcut
    obtain ⟨hgb, A2, c2, A3, c3, hh, hV, hR⟩ := HN
    have hbz1 : w.heap.size + 1 < W0.heap.size := by have := HZ.out; omega
    have d0 : wc.cell? ⟨g, 0, none⟩ = some (.bool false) := blk_cell hh 0
    have d1 : wc.cell? ⟨g, 1, none⟩ = some (.slice A2 l.length c2) := blk_cell hh 1
    have d2 : wc.cell? ⟨g, 2, none⟩ = some (.slice A3 1 c3) := blk_cell hh 2
    have e0 : wc.cell? ⟨w.heap.size, 0, none⟩ = some (.int .i64 3) := (HBc.out.cell (p := ⟨w.heap.size, 0, none⟩) hbz).trans (by rw [HW0.out]; go_simp)
    have e1 : wc.cell? ⟨w.heap.size, 1, none⟩ = some (.bool false) := (HBc.out.cell (p := ⟨w.heap.size, 1, none⟩) hbz).trans (by rw [HW0.out]; go_simp)
    have e2 : wc.cell? ⟨w.heap.size, 2, none⟩ = some (.string ⟨#[]⟩) := (HBc.out.cell (p := ⟨w.heap.size, 2, none⟩) hbz).trans (by rw [HW0.out]; go_simp)
    have e3 : wc.cell? ⟨w.heap.size, 3, none⟩ = some (.bool false) := (HBc.out.cell (p := ⟨w.heap.size, 3, none⟩) hbz).trans (by rw [HW0.out]; go_simp)
    have e4 : wc.cell? ⟨w.heap.size, 4, none⟩ = some (.slice A ws.length c) := (HBc.out.cell (p := ⟨w.heap.size, 4, none⟩) hbz).trans (by rw [HW0.out]; go_simp)
    have e5 : wc.cell? ⟨w.heap.size, 5, none⟩ = some (.slice none 0 0) := (HBc.out.cell (p := ⟨w.heap.size, 5, none⟩) hbz).trans (by rw [HW0.out]; go_simp)
    have e6 : wc.cell? ⟨w.heap.size, 6, none⟩ = some (.bool false) := (HBc.out.cell (p := ⟨w.heap.size, 6, none⟩) hbz).trans (by rw [HW0.out]; go_simp)
    have e7 : wc.cell? ⟨w.heap.size, 7, none⟩ = some (.slice none 0 0) := (HBc.out.cell (p := ⟨w.heap.size, 7, none⟩) hbz).trans (by rw [HW0.out]; go_simp)
    have e8 : wc.cell? ⟨w.heap.size, 8, none⟩ = some (.slice none 0 0) := (HBc.out.cell (p := ⟨w.heap.size, 8, none⟩) hbz).trans (by rw [HW0.out]; go_simp)
    have m0 : wc.cell? ⟨w.heap.size + 1, 0, none⟩ = some (.bool false) := (HBc.out.cell (p := ⟨w.heap.size + 1, 0, none⟩) hbz1).trans (by rw [HW0.out]; go_simp)
    have n0 : wc.frozen? ⟨w.heap.size + 1, 0, none⟩ = false := (HBc.out.frozen (p := ⟨w.heap.size + 1, 0, none⟩) hbz1).trans (by rw [HW0.out]; go_simp)
    have m1 : wc.cell? ⟨w.heap.size + 1, 1, none⟩ = some (.slice none 0 0) := (HBc.out.cell (p := ⟨w.heap.size + 1, 1, none⟩) hbz1).trans (by rw [HW0.out]; go_simp)
    have n1 : wc.frozen? ⟨w.heap.size + 1, 1, none⟩ = false := (HBc.out.frozen (p := ⟨w.heap.size + 1, 1, none⟩) hbz1).trans (by rw [HW0.out]; go_simp)
    have m2 : wc.cell? ⟨w.heap.size + 1, 2, none⟩ = some (.slice none 0 0) := (HBc.out.cell (p := ⟨w.heap.size + 1, 2, none⟩) hbz1).trans (by rw [HW0.out]; go_simp)
    have n2 : wc.frozen? ⟨w.heap.size + 1, 2, none⟩ = false := (HBc.out.frozen (p := ⟨w.heap.size + 1, 2, none⟩) hbz1).trans (by rw [HW0.out]; go_simp)
    have hgS : ¬ (g = w.heap.size + 1) := by omega
    have hbS : ¬ (w.heap.size = w.heap.size + 1) := by omega
    have hgl := blk_lt hh
    have huc : w.heap.size + 1 < wc.heap.size := by omega
    have hf0 : Fr (· = w.heap.size + 1) wc wc := Fr.refl _ _
    have HBw := Aside0.mk (HB0.out.trans (HBc.out.mono (by omega)))
    have HV := Aside0.mk hV
    have HV3 := Aside0.mk hR
    have HH := Aside0.mk hh
    clear hV hR hh
    go_upto_region 4 with fail
    go_region_held3 (fun w' => w'.cell? ⟨g, 0, none⟩ = some (.bool false) ∧ w'.cell? ⟨g, 1, none⟩ = some (.slice A2 l.length c2) ∧ w'.cell? ⟨g, 2, none⟩ = some (.slice A3 1 c3) ∧ w'.cell? ⟨w.heap.size, 0, none⟩ = some (.int .i64 3) ∧ w'.cell? ⟨w.heap.size, 1, none⟩ = some (.bool false) ∧ w'.cell? ⟨w.heap.size, 2, none⟩ = some (.string ⟨#[]⟩) ∧ w'.cell? ⟨w.heap.size, 3, none⟩ = some (.bool false) ∧ w'.cell? ⟨w.heap.size, 4, none⟩ = some (.slice A ws.length c) ∧ w'.cell? ⟨w.heap.size, 5, none⟩ = some (.slice none 0 0) ∧ w'.cell? ⟨w.heap.size, 6, none⟩ = some (.bool false) ∧ w'.cell? ⟨w.heap.size, 7, none⟩ = some (.slice none 0 0) ∧ w'.cell? ⟨w.heap.size, 8, none⟩ = some (.slice none 0 0) ∧ Fr (· = w.heap.size + 1) wc w')
      ((exact keepI (by repeat (first | assumption | apply Fr.drew | (refine Fr.setCell ?_ (Or.inl (by first | rfl | (simp; done))) _) | apply Fr.alloc)) hgS hbS d0 d1 d2 e0 e1 e2 e3 e4 e5 e6 e7 e8))
      (first | (go_at_call 35; refine (isNumber_calls k A c ws A2 c2 l true _ (Kd.C_below HRw.out (HBw.out.trans (Fr.toBelow (B := w.heap.size) (by repeat (first | assumption | apply Fr.drew | (refine Fr.setCell ?_ (Or.inl (by first | rfl | (simp; done))) _) | apply Fr.alloc)) (by have := HBw.out.size; omega) (fun k hk => by omega)))) HC.out (Kd.V_reads' (C_fr HV.out (by repeat (first | assumption | apply Fr.drew | (refine Fr.setCell ?_ (Or.inl (by first | rfl | (simp; done))) _) | apply Fr.alloc)) (fun k hk => by omega))).2.2 (Kd.V_reads' (C_fr HV.out (by repeat (first | assumption | apply Fr.drew | (refine Fr.setCell ?_ (Or.inl (by first | rfl | (simp; done))) _) | apply Fr.alloc)) (fun k hk => by omega))).2.1 HW.out).mono ?_; rintro e w1 ⟨rfl, hB⟩; have hs1 := hB.size; (try simp only [World.size_alloc, World.size_drew] at hs1); have hu1 : w.heap.size + 1 < w1.heap.size := (by omega); obtain ⟨qa1, qb1⟩ := bcell hB; (try simp only [World.size_alloc, World.size_drew] at qa1 qb1); have hf1 : Fr (· = w.heap.size + 1) wc w1 := Fr.below (by repeat (first | assumption | apply Fr.drew | (refine Fr.setCell ?_ (Or.inl (by first | rfl | (simp; done))) _) | apply Fr.alloc)) hB) | (go_at_call 36; refine (Pr.spec_rest.calls 3 false ⟨#[]⟩ false A c ws none 0 [] false none 0 [] none 0 [] true _ (Kd.C_below HRw.out (HBw.out.trans (Fr.toBelow (B := w.heap.size) (by repeat (first | assumption | apply Fr.drew | (refine Fr.setCell ?_ (Or.inl (by first | rfl | (simp; done))) _) | apply Fr.alloc)) (by have := HBw.out.size; omega) (fun k hk => by omega)))) HC.out (C_nil none) (Nat.le_refl _) (C_nil none) (Nat.le_refl _) (C_nil none) (Nat.le_refl _) (rest_int ws)).mono ?_; rintro e w2 ⟨rfl, hB2⟩; have hs2 := hB2.size; (try simp only [World.size_alloc, World.size_drew] at hs2); have hu2 : w.heap.size + 1 < w2.heap.size := (by omega); obtain ⟨qa2, qb2⟩ := bcell hB2; (try simp only [World.size_alloc, World.size_drew] at qa2 qb2); have hf2 : Fr (· = w.heap.size + 1) wc w2 := Fr.below (by repeat (first | assumption | apply Fr.drew | (refine Fr.setCell ?_ (Or.inl (by first | rfl | (simp; done))) _) | apply Fr.alloc)) hB2))
    go_wp2
    have hff : Fr (· = w.heap.size + 1) wc (((w2.setCell ⟨w.heap.size + 1, 0, none⟩ (.bool false)).setCell ⟨w.heap.size + 1, 1, none⟩ (.slice A2 l.length c2)).setCell ⟨w.heap.size + 1, 2, none⟩ (.slice A3 1 c3)) :=
      ((hf2.setCell (Or.inl rfl) _).setCell (Or.inl rfl) _).setCell (Or.inl rfl) _
    refine bodyPost_ret (v := .tuple #[.agg #[.bool false, .slice A2 l.length c2, .slice A3 1 c3], .bool true]) (by simp [results, Tryz.results23, go_sem, qa2, qa1, m0, m1, m2, hu1, huc]) rfl ⟨_, _, rfl, ?_, ?_, ?_⟩
    · exact Kd.V_mono (C_fr HV.out hff (fun k hk => by omega)) (fun k hk => by omega)
    · exact Kd.V_mono (C_fr HV3.out hff (fun k hk => by omega)) (fun k hk => by omega)
    · exact HBw.out.trans (hff.toBelow (by omega) (fun k hk => by omega))
end Go.Proofs.YtgpoplfgngiilaaGreatDoor
