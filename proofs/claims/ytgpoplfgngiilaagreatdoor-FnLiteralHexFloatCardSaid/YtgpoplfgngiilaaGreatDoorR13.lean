/- Blocks cut out of what the kit printed for this seat (E5). -/
import Derived.Test.YtgpoplfgngiilaaGreatDoorR12
set_option linter.unusedVariables false
set_option linter.unusedSimpArgs false
namespace Go.Proofs.YtgpoplfgngiilaaGreatDoor.Pr
open Go.RowKit Go.Proofs.YtgpoplfgngiilaaGreatDoorW.PrintWords Go.Proofs.YtgpoplfgngiilaaGreatDoorW.PrintLast Go.Proofs.YtgpoplfgngiilaaGreatDoorW.PrintMore
attribute [local go_sem] max2_int min2_int max_two min_two max_three min_three max_four min_four
set_option linter.unusedVariables false
set_option linter.unusedSimpArgs false

def spec_Digits.l0 : Nat → List Int → ByteArray → Option (ByteArray)
  | 0, _, _ => none
  | k + 1, x0, x3 => if (x0.length : Int) > 0 then ((spec_byDigit.f k x0 10).bind fun bt318 => ((some (([(wrap64 (48 + bt318.2)) % 256] : List Int) : List Int)).bind fun y322 => (if (strOfNums y322).size + x3.size ≤ 9223372036854775807 then (spec_Digits.l0 k bt318.1 ((strOfNums y322) ++ x3)) else (none)))) else (some x3)
def spec_Digits.f (k : Nat) (l0 : List Int) : Option (ByteArray) := if (l0.length : Int) = 0 then (some (⟨#[48]⟩ : ByteArray)) else (spec_Digits.l0 k l0 (⟨#[]⟩ : ByteArray))
set_option maxHeartbeats 8000000 in
set_option maxRecDepth 100000 in
theorem spec_Digits.calls (k : Nat) (P0_ : Nat → Prop) (A0 : Option Addr) (c0 : Nat) (l0 : List Int) (r : ByteArray) (w : World) (hs0 : Kd.V (Kd.int .i64) 3 w w.heap.size (fun k_ => P0_ k_) (.slice A0 l0.length c0) l0) (h : spec_Digits.f k l0 = some r) :
    Calls Tryz.prog 30 #[.slice A0 l0.length c0] w fun e w' => e = .returned (.string r) ∧ Below w.heap.size w w' := by
  have HO0 := Aside0.mk (show Kd.V (Kd.int .i64) 3 w w.heap.size (fun k_ => (P0_ k_ ∨ w.heap.size ≤ k_)) (.slice A0 l0.length c0) l0 from Kd.V_mono hs0 (fun k_ hk => .inl hk))
  have HB := Aside0.mk (Below.refl w.heap.size w)
  have H : (if (l0.length : Int) = 0 then (some (⟨#[48]⟩ : ByteArray)) else (spec_Digits.l0 k l0 (⟨#[]⟩ : ByteArray))) = some r := h
  clear h
  by_cases c2 : (l0.length : Int) = 0
  · rw [if_pos c2] at H
    have c2b0 : ((l0.length : Int) == 0) = true := beq_iff_eq.mpr c2
    have c2b1 : ((l0.length : Int) != 0) = false := bne_eq_false_iff_eq.mpr c2
    clear c2
    obtain rfl := Option.some.inj H
    go_enter Tryz.func30, Tryz.ntmps30
    go_wp2
    go_ret
    exact ⟨by first | rfl | (simp [errW_none, errW_some] <;> rfl) | (simp [*, errW_none, errW_some] <;> rfl), by repeat (first | (with_reducible first | exact HB.out | apply below_alloc | apply pw_below_drewN | apply below_drew1) | exact HB.out)⟩
  · rw [if_neg c2] at H
    have c2b0 : ((l0.length : Int) == 0) = false := beq_eq_false_iff_ne.mpr c2
    have c2b1 : ((l0.length : Int) != 0) = true := bne_iff_ne.mpr c2
    have c2b2 : ¬ (l0 = []) := fun h_ => c2 (by rw [h_]; rfl)
    have H' := Aside0.mk H
    clear H
    go_enter Tryz.func30, Tryz.ntmps30
    go_wp2
    go_loopg [0, 3] k (fun kq v0 v3 w' => ∃ (x0_1 : List Int) (x3_1 : ByteArray), v3 = .string x3_1 ∧ Aside0 (spec_Digits.l0 kq x0_1 x3_1 = some r) ∧ Aside0 (kq ≤ k) ∧ Aside0 (Kd.V (Kd.int .i64) 3 w' w.heap.size (fun k_ => (P0_ k_ ∨ w.heap.size ≤ k_)) v0 x0_1) ∧ Aside0 (Below w.heap.size w w'))
    case atStart => exact ⟨(l0), ((⟨#[]⟩ : ByteArray)), (by first | rfl | (simp; done) | (simp [*]; done)), H', ⟨Nat.le_refl _⟩, ⟨by (with_reducible repeat (first | apply Kd.V_alloc | apply Kd.V_drewN | apply Kd.V_drew)); exact HO0.out⟩, ⟨by repeat (first | (with_reducible first | exact HB.out | apply below_alloc | apply pw_below_drewN | apply below_drew1) | exact HB.out)⟩⟩
    case round =>
      clear H'
      try clear c2
      try clear c2b0
      try clear c2b1
      try clear c2b2
      try clear p2
      obtain ⟨x0_1, x3_1, rfl, HA, HK1, HO_0, HB⟩ := hrel
      cases gk with
      | zero => exact absurd HA.out (by simp [spec_Digits.l0])
      | succ k1 =>
        have H := HA.out
        clear HA
        simp only [spec_Digits.l0] at H
        by_cases c3 : (x0_1.length : Int) > 0
        · rw [if_pos c3] at H
          have c3b0 : decide (0 < (x0_1.length : Int)) = true := decide_eq_true c3
          have c3b1 : decide (0 < x0_1.length) = true := decide_eq_true (by omega)
          clear c3
          replace H := Option.bind_eq_some_iff.mp H
          obtain ⟨⟨t318, t321⟩, A40, H⟩ := H
          replace H : ((some (([(wrap64 (48 + t321)) % 256] : List Int) : List Int)).bind fun y322 => (if (strOfNums y322).size + x3_1.size ≤ 9223372036854775807 then (spec_Digits.l0 k1 t318 ((strOfNums y322) ++ x3_1)) else (none))) = some r := H
          have A4 := Aside0.mk A40
          clear A40
          obtain ⟨y322, hy322⟩ : ∃ y_ : List Int, y_ = (([(wrap64 (48 + t321)) % 256] : List Int)) := ⟨_, rfl⟩
          replace H : (if (strOfNums y322).size + x3_1.size ≤ 9223372036854775807 then (spec_Digits.l0 k1 t318 ((strOfNums y322) ++ x3_1)) else (none)) = some r := by first | (rw [hy322]; with_reducible exact H) | (have H2_ := (Option.bind_some _ _).symm.trans H; rw [hy322]; with_reducible exact H2_) | (have H2_ := (Option.bind_some _ _).symm.trans H; with_reducible exact H2_) | with_reducible exact H | (rw [hy322]; exact H) | exact H
          have Ny322 := Aside0.mk hy322
          clear hy322
          by_cases c5 : (strOfNums y322).size + x3_1.size ≤ 9223372036854775807
          · rw [if_pos c5] at H
            have c5b0 := eq_true c5
            have c5b1 : decide ((strOfNums y322).size + x3_1.size ≤ 9223372036854775807) = true := decide_eq_true c5
            try have c5b2 : (9223372036854775807 < (strOfNums y322).size + x3_1.size) = False := eq_false (Nat.not_lt.2 c5)
            have H' := Aside0.mk H
            clear H
            obtain ⟨Ao6, co6, eo6⟩ := Kd.V_slice HO_0.out
            subst eo6
            go_wp2_with (first | ((with_reducible refine gate_callee (f := 24) rfl ?_); refine goesL_ (some 14) rfl rfl Tryz.func24 (by kernel_rfl) rfl #[.slice Ao6 x0_1.length co6, .int .i64 10] rfl (by (try simp only [List.map_toArray, List.map_cons, List.map_nil]); first | done | rfl | (simp only [List.length_drop, List.length_take]; rfl)) ?_; (with_reducible refine (spec_byDigit.calls k1 _ _ x0_1 10 t318 t321 _ ?side1 ?side2 A4.out).mono ?_); (case side1 => repeat (first | exact (Kd.V_reads' HO_0.out).2.2 | (with_reducible refine Kd.C_alloc ?_ _) | (with_reducible refine Kd.C_drewN ?_ _) | (with_reducible refine Kd.C_drew ?_))); (case side2 => exact (Kd.V_reads' HO_0.out).2.1); rintro e w7 ⟨v319, rfl, ho0, hb⟩; refine ⟨_, rfl, ?_⟩; have n0_ := Aside0.mk (Kd.V_below (by (with_reducible repeat (first | apply Kd.V_alloc | apply Kd.V_drewN | apply Kd.V_drew)); exact HO_0.out) hb); have n1_ := Aside0.mk (Kd.V_lower (Kd.V_mono (ok' := fun k_ => (P0_ k_ ∨ w.heap.size ≤ k_)) ho0 (fun k_ hk_ => (.inr (Nat.le_trans (below_size (by repeat (first | (with_reducible first | exact HB.out | apply below_alloc | apply pw_below_drewN | apply below_drew1) | exact HB.out))) hk_)))) (below_size (by repeat (first | (with_reducible first | exact HB.out | apply below_alloc | apply pw_below_drewN | apply below_drew1) | exact HB.out)))); have n2_ := Aside0.mk (below_step (by repeat (first | (with_reducible first | exact HB.out | apply below_alloc | apply pw_below_drewN | apply below_drew1) | exact HB.out)) hb); clear HO_0; clear HB; have HO_0 := n0_; have HO320 := n1_; have HB := n2_; clear n0_ n1_ n2_; (try clear hb); (try clear hb2); (try clear hk); (try clear hi); (try clear ho0)) | ((with_reducible refine gate_dst (N := 20) rfl ?_); refine Kd.R_lit (Kd.int .u8) _ 5 ?hg (N := 20) ?hd (xs := ([(wrap64 (48 + t321)) % 256] : List Int)) (inner := [.int .u8 ((wrap64 (48 + t321)) % 256)]) (ok := fun _ => True) (okp := fun _ => True) ?hr ?hp (fun _ hk => hk) trivial (Below.refl _ _) (Nat.le_refl _) (by simp) ?_; (case hd => rfl); (case hg => rfl); (case hr => first | (go_simp; done) | (go_simp; rfl)); (case hp => exact (Reps.one (show Kd.M (Kd.int .u8) _ _ _ ((wrap64 (48 + t321)) % 256) [.int .u8 ((wrap64 (48 + t321)) % 256)] from rfl) (Reps.none _ _))); intro v323 w8 ho9 hb hg_ hnew_; clear hg_ hnew_; (first | rw [← Ny322.out] at ho9 | (simp only [Int.reduceToNat] at ho9; rw [← Ny322.out] at ho9)); have n0_ := Aside0.mk (Kd.V_elder' (by (with_reducible repeat (first | apply Kd.V_alloc | apply Kd.V_drewN | apply Kd.V_drew)); exact HO_0.out) (Kd.R_base ho9) hb); have n1_ := Aside0.mk (Kd.V_elder' (by (with_reducible repeat (first | apply Kd.V_alloc | apply Kd.V_drewN | apply Kd.V_drew)); exact HO320.out) (Kd.R_base ho9) hb); have n2_ := Aside0.mk (Kd.R_lower (Kd.R_newM (M := fun k_ => (w.heap.size ≤ k_)) ho9 (below_size (by repeat (first | (with_reducible first | exact HB.out | apply below_alloc | apply pw_below_drewN | apply below_drew1) | exact HB.out))) (fun k_ h_ => h_)) (below_size (by repeat (first | (with_reducible first | exact HB.out | apply below_alloc | apply pw_below_drewN | apply below_drew1) | exact HB.out)))); have n3_ := Aside0.mk (below_step (by repeat (first | (with_reducible first | exact HB.out | apply below_alloc | apply pw_below_drewN | apply below_drew1) | exact HB.out)) hb); clear HO_0; clear HO320; clear HB; have HO_0 := n0_; have HO320 := n1_; have HO324 := n2_; have HB := n3_; clear n0_ n1_ n2_ n3_; clear hb ho9; have hcv10 := own_string (P := Tryz.prog) Tryz.underlying44 Tryz.underlying5 Tryz.underlying9 (Kd.own_of_R HO324.out)))
            go_roundg k1
            case measure => have := HK1.out; omega
            case rel => exact ⟨(t318), ((strOfNums y322) ++ x3_1), (by first | rfl | (simp; done) | (simp [*]; done)), H', ⟨by have := HK1.out; omega⟩, ⟨by (with_reducible repeat (first | apply Kd.V_alloc | apply Kd.V_drewN | apply Kd.V_drew)); exact Kd.V_mono HO320.out (fun _ hk => hk.1)⟩, ⟨by repeat (first | (with_reducible first | exact HB.out | apply below_alloc | apply pw_below_drewN | apply below_drew1) | exact HB.out)⟩⟩
          · rw [if_neg c5] at H
            exact absurd H (by simp)
        · rw [if_neg c3] at H
          have c3b0 : decide (0 < (x0_1.length : Int)) = false := decide_eq_false c3
          have c3b1 : decide (0 < x0_1.length) = false := decide_eq_false (by omega)
          clear c3
          obtain rfl := Option.some.inj H
          obtain ⟨Ao11, co11, eo11⟩ := Kd.V_slice HO_0.out
          subst eo11
          go_wp2
          go_ret
          exact ⟨by first | rfl | (simp [errW_none, errW_some] <;> rfl) | (simp [*, errW_none, errW_some] <;> rfl), by repeat (first | (with_reducible first | exact HB.out | apply below_alloc | apply pw_below_drewN | apply below_drew1) | exact HB.out)⟩

def laws_exponent.f (k : Nat) (a0 : ByteArray) (a1 : Int) (a2 : Bool) : Option (ByteArray) := (spec_Small.f k (mx a1 (wrap64 (-a1)))).bind fun t325 => ((spec_Digits.f k t325).bind fun t328 => (if a1 < 0 then (if a0.size + 1 ≤ 9223372036854775807 then (if (a0 ++ (⟨#[45]⟩ : ByteArray)).size + t328.size ≤ 9223372036854775807 then (some ((a0 ++ (⟨#[45]⟩ : ByteArray)) ++ t328)) else (none)) else (none)) else (if a2 = true then (if a0.size + 1 ≤ 9223372036854775807 then (if (a0 ++ (⟨#[43]⟩ : ByteArray)).size + t328.size ≤ 9223372036854775807 then (some ((a0 ++ (⟨#[43]⟩ : ByteArray)) ++ t328)) else (none)) else (none)) else (if a0.size + t328.size ≤ 9223372036854775807 then (some (a0 ++ t328)) else (none)))))
set_option maxHeartbeats 8000000 in
set_option maxRecDepth 100000 in
theorem laws_exponent.calls (k : Nat) (a0 : ByteArray) (a1 : Int) (a2 : Bool) (r : ByteArray) (w : World) (h : laws_exponent.f k a0 a1 a2 = some r) :
    Calls Tryz.prog 17 #[.string a0, .int .i64 a1, .bool a2] w fun e w' => e = .returned (.string r) ∧ Below w.heap.size w w' := by
  have HB := Aside0.mk (Below.refl w.heap.size w)
  have H : ((spec_Small.f k (mx a1 (wrap64 (-a1)))).bind fun t325 => ((spec_Digits.f k t325).bind fun t328 => (if a1 < 0 then (if a0.size + 1 ≤ 9223372036854775807 then (if (a0 ++ (⟨#[45]⟩ : ByteArray)).size + t328.size ≤ 9223372036854775807 then (some ((a0 ++ (⟨#[45]⟩ : ByteArray)) ++ t328)) else (none)) else (none)) else (if a2 = true then (if a0.size + 1 ≤ 9223372036854775807 then (if (a0 ++ (⟨#[43]⟩ : ByteArray)).size + t328.size ≤ 9223372036854775807 then (some ((a0 ++ (⟨#[43]⟩ : ByteArray)) ++ t328)) else (none)) else (none)) else (if a0.size + t328.size ≤ 9223372036854775807 then (some (a0 ++ t328)) else (none)))))) = some r := h
  clear h
  obtain ⟨ji4, hji4⟩ : ∃ j_ : Int, (mx a1 (wrap64 (-a1))) = j_ := ⟨_, rfl⟩
  replace H : ((spec_Small.f k (ji4)).bind fun t325 => ((spec_Digits.f k t325).bind fun t328 => (if a1 < 0 then (if a0.size + 1 ≤ 9223372036854775807 then (if (a0 ++ (⟨#[45]⟩ : ByteArray)).size + t328.size ≤ 9223372036854775807 then (some ((a0 ++ (⟨#[45]⟩ : ByteArray)) ++ t328)) else (none)) else (none)) else (if a2 = true then (if a0.size + 1 ≤ 9223372036854775807 then (if (a0 ++ (⟨#[43]⟩ : ByteArray)).size + t328.size ≤ 9223372036854775807 then (some ((a0 ++ (⟨#[43]⟩ : ByteArray)) ++ t328)) else (none)) else (none)) else (if a0.size + t328.size ≤ 9223372036854775807 then (some (a0 ++ t328)) else (none)))))) = some r := by first | (rw [hji4] at H; exact H) | (simp only [hji4] at H ⊢; exact H)
  have hji4_ : (if a1 < (wrap64 (-a1)) then (wrap64 (-a1)) else a1) = ji4 := hji4
  replace H := Option.bind_eq_some_iff.mp H
  obtain ⟨t325, A50, H⟩ := H
  replace H : ((spec_Digits.f k t325).bind fun t328 => (if a1 < 0 then (if a0.size + 1 ≤ 9223372036854775807 then (if (a0 ++ (⟨#[45]⟩ : ByteArray)).size + t328.size ≤ 9223372036854775807 then (some ((a0 ++ (⟨#[45]⟩ : ByteArray)) ++ t328)) else (none)) else (none)) else (if a2 = true then (if a0.size + 1 ≤ 9223372036854775807 then (if (a0 ++ (⟨#[43]⟩ : ByteArray)).size + t328.size ≤ 9223372036854775807 then (some ((a0 ++ (⟨#[43]⟩ : ByteArray)) ++ t328)) else (none)) else (none)) else (if a0.size + t328.size ≤ 9223372036854775807 then (some (a0 ++ t328)) else (none))))) = some r := H
  have A5 := Aside0.mk A50
  clear A50
  replace H := Option.bind_eq_some_iff.mp H
  obtain ⟨t328, A60, H⟩ := H
  replace H : (if a1 < 0 then (if a0.size + 1 ≤ 9223372036854775807 then (if (a0 ++ (⟨#[45]⟩ : ByteArray)).size + t328.size ≤ 9223372036854775807 then (some ((a0 ++ (⟨#[45]⟩ : ByteArray)) ++ t328)) else (none)) else (none)) else (if a2 = true then (if a0.size + 1 ≤ 9223372036854775807 then (if (a0 ++ (⟨#[43]⟩ : ByteArray)).size + t328.size ≤ 9223372036854775807 then (some ((a0 ++ (⟨#[43]⟩ : ByteArray)) ++ t328)) else (none)) else (none)) else (if a0.size + t328.size ≤ 9223372036854775807 then (some (a0 ++ t328)) else (none)))) = some r := H
  have A6 := Aside0.mk A60
  clear A60
  by_cases c7 : a1 < 0
  · rw [if_pos c7] at H
    have c7b0 : decide (a1 < 0) = true := decide_eq_true c7
    clear c7
    by_cases c8 : a0.size + 1 ≤ 9223372036854775807
    · rw [if_pos c8] at H
      have c8b0 := eq_true c8
      have c8b1 : decide (a0.size + 1 ≤ 9223372036854775807) = true := decide_eq_true c8
      try have c8b2 : (9223372036854775807 < a0.size + 1) = False := eq_false (Nat.not_lt.2 c8)
      by_cases c9 : (a0 ++ (⟨#[45]⟩ : ByteArray)).size + t328.size ≤ 9223372036854775807
      · rw [if_pos c9] at H
        have c9b0 := eq_true c9
        have c9b1 : decide ((a0 ++ (⟨#[45]⟩ : ByteArray)).size + t328.size ≤ 9223372036854775807) = true := decide_eq_true c9
        try have c9b2 : (9223372036854775807 < (a0 ++ (⟨#[45]⟩ : ByteArray)).size + t328.size) = False := eq_false (Nat.not_lt.2 c9)
        obtain rfl := Option.some.inj H
        go_enter Tryz.func17, Tryz.ntmps17
        go_wp2_with (first | ((with_reducible refine gate_callee (f := 28) rfl ?_); refine goesL_ (some 12) rfl rfl Tryz.func28 (by kernel_rfl) rfl #[.int .i64 ji4] rfl (by (try simp only [List.map_toArray, List.map_cons, List.map_nil]); first | done | (simp only [hji4]; rfl) | rfl | (simp only [List.length_drop, List.length_take]; rfl)) ?_; (with_reducible refine (spec_Small.calls k ji4 t325 _ A5.out).mono ?_); rintro e w10 ⟨v326, rfl, ho0, hb⟩; refine ⟨_, rfl, ?_⟩; have n0_ := Aside0.mk (Kd.R_lower ho0 (below_size (by repeat (first | (with_reducible first | exact HB.out | apply below_alloc | apply pw_below_drewN | apply below_drew1) | exact HB.out)))); have n1_ := Aside0.mk (below_step (by repeat (first | (with_reducible first | exact HB.out | apply below_alloc | apply pw_below_drewN | apply below_drew1) | exact HB.out)) hb); clear HB; have HO327 := n0_; have HB := n1_; clear n0_ n1_; (try clear hb); (try clear hb2); (try clear hk); (try clear hi); (try clear ho0); obtain ⟨Ao11, co11, eo11⟩ := Kd.R_slice HO327.out; subst eo11) | ((with_reducible refine gate_callee (f := 30) rfl ?_); refine goesL_ (some 13) rfl rfl Tryz.func30 (by kernel_rfl) rfl #[.slice Ao11 t325.length co11] rfl (by (try simp only [List.map_toArray, List.map_cons, List.map_nil]); first | done | rfl | (simp only [List.length_drop, List.length_take]; rfl)) ?_; (with_reducible refine (spec_Digits.calls k (fun k_ => some k_ = (.slice Ao11 t325.length co11 : Value).ownBlock) _ _ t325 t328 _ ?side1 A6.out).mono ?_); (case side1 => exact Kd.R_V (Kd.R_tight rfl (HO327.out))); rintro e w12 ⟨rfl, hb⟩; refine ⟨_, rfl, ?_⟩; have n0_ := Aside0.mk (Kd.R_below (by (with_reducible repeat (first | apply Kd.R_alloc | apply Kd.R_drewN | apply Kd.R_drew)); exact HO327.out) hb); have n1_ := Aside0.mk (below_step (by repeat (first | (with_reducible first | exact HB.out | apply below_alloc | apply pw_below_drewN | apply below_drew1) | exact HB.out)) hb); clear HO327; clear HB; have HO327 := n0_; have HB := n1_; clear n0_ n1_; (try clear hb); (try clear hb2); (try clear hk); (try clear hi)))
        go_ret
        exact ⟨by first | rfl | (simp [errW_none, errW_some] <;> rfl) | (simp only [← hji4]; first | rfl | (simp [errW_none, errW_some] <;> rfl)) | (simp [*, errW_none, errW_some] <;> rfl), by repeat (first | (with_reducible first | exact HB.out | apply below_alloc | apply pw_below_drewN | apply below_drew1) | exact HB.out)⟩
      · rw [if_neg c9] at H
        exact absurd H (by simp)
    · rw [if_neg c8] at H
      exact absurd H (by simp)
  · rw [if_neg c7] at H
    have c7b0 : decide (a1 < 0) = false := decide_eq_false c7
    clear c7
    by_cases c13 : a2 = true
    · subst c13
      have H1 : (if a0.size + 1 ≤ 9223372036854775807 then (if (a0 ++ (⟨#[43]⟩ : ByteArray)).size + t328.size ≤ 9223372036854775807 then (some ((a0 ++ (⟨#[43]⟩ : ByteArray)) ++ t328)) else (none)) else (none)) = some r := by rw [if_pos rfl] at H; exact H
      clear H
      have H := H1
      clear H1
      by_cases c14 : a0.size + 1 ≤ 9223372036854775807
      · rw [if_pos c14] at H
        have c14b0 := eq_true c14
        have c14b1 : decide (a0.size + 1 ≤ 9223372036854775807) = true := decide_eq_true c14
        try have c14b2 : (9223372036854775807 < a0.size + 1) = False := eq_false (Nat.not_lt.2 c14)
        by_cases c15 : (a0 ++ (⟨#[43]⟩ : ByteArray)).size + t328.size ≤ 9223372036854775807
        · rw [if_pos c15] at H
          have c15b0 := eq_true c15
          have c15b1 : decide ((a0 ++ (⟨#[43]⟩ : ByteArray)).size + t328.size ≤ 9223372036854775807) = true := decide_eq_true c15
          try have c15b2 : (9223372036854775807 < (a0 ++ (⟨#[43]⟩ : ByteArray)).size + t328.size) = False := eq_false (Nat.not_lt.2 c15)
          obtain rfl := Option.some.inj H
          go_enter Tryz.func17, Tryz.ntmps17
          go_wp2_with (first | ((with_reducible refine gate_callee (f := 28) rfl ?_); refine goesL_ (some 12) rfl rfl Tryz.func28 (by kernel_rfl) rfl #[.int .i64 ji4] rfl (by (try simp only [List.map_toArray, List.map_cons, List.map_nil]); first | done | (simp only [hji4]; rfl) | rfl | (simp only [List.length_drop, List.length_take]; rfl)) ?_; (with_reducible refine (spec_Small.calls k ji4 t325 _ A5.out).mono ?_); rintro e w16 ⟨v326, rfl, ho0, hb⟩; refine ⟨_, rfl, ?_⟩; have n0_ := Aside0.mk (Kd.R_lower ho0 (below_size (by repeat (first | (with_reducible first | exact HB.out | apply below_alloc | apply pw_below_drewN | apply below_drew1) | exact HB.out)))); have n1_ := Aside0.mk (below_step (by repeat (first | (with_reducible first | exact HB.out | apply below_alloc | apply pw_below_drewN | apply below_drew1) | exact HB.out)) hb); clear HB; have HO327 := n0_; have HB := n1_; clear n0_ n1_; (try clear hb); (try clear hb2); (try clear hk); (try clear hi); (try clear ho0); obtain ⟨Ao17, co17, eo17⟩ := Kd.R_slice HO327.out; subst eo17) | ((with_reducible refine gate_callee (f := 30) rfl ?_); refine goesL_ (some 13) rfl rfl Tryz.func30 (by kernel_rfl) rfl #[.slice Ao17 t325.length co17] rfl (by (try simp only [List.map_toArray, List.map_cons, List.map_nil]); first | done | rfl | (simp only [List.length_drop, List.length_take]; rfl)) ?_; (with_reducible refine (spec_Digits.calls k (fun k_ => some k_ = (.slice Ao17 t325.length co17 : Value).ownBlock) _ _ t325 t328 _ ?side1 A6.out).mono ?_); (case side1 => exact Kd.R_V (Kd.R_tight rfl (HO327.out))); rintro e w18 ⟨rfl, hb⟩; refine ⟨_, rfl, ?_⟩; have n0_ := Aside0.mk (Kd.R_below (by (with_reducible repeat (first | apply Kd.R_alloc | apply Kd.R_drewN | apply Kd.R_drew)); exact HO327.out) hb); have n1_ := Aside0.mk (below_step (by repeat (first | (with_reducible first | exact HB.out | apply below_alloc | apply pw_below_drewN | apply below_drew1) | exact HB.out)) hb); clear HO327; clear HB; have HO327 := n0_; have HB := n1_; clear n0_ n1_; (try clear hb); (try clear hb2); (try clear hk); (try clear hi)))
          go_ret
          exact ⟨by first | rfl | (simp [errW_none, errW_some] <;> rfl) | (simp only [← hji4]; first | rfl | (simp [errW_none, errW_some] <;> rfl)) | (simp [*, errW_none, errW_some] <;> rfl), by repeat (first | (with_reducible first | exact HB.out | apply below_alloc | apply pw_below_drewN | apply below_drew1) | exact HB.out)⟩
        · rw [if_neg c15] at H
          exact absurd H (by simp)
      · rw [if_neg c14] at H
        exact absurd H (by simp)
    · replace c13 := Bool.eq_false_iff.mpr c13
      subst c13
      have H1 : (if a0.size + t328.size ≤ 9223372036854775807 then (some (a0 ++ t328)) else (none)) = some r := by rw [if_neg (show ¬ (false = true) by decide)] at H; exact H
      clear H
      have H := H1
      clear H1
      by_cases c19 : a0.size + t328.size ≤ 9223372036854775807
      · rw [if_pos c19] at H
        have c19b0 := eq_true c19
        have c19b1 : decide (a0.size + t328.size ≤ 9223372036854775807) = true := decide_eq_true c19
        try have c19b2 : (9223372036854775807 < a0.size + t328.size) = False := eq_false (Nat.not_lt.2 c19)
        obtain rfl := Option.some.inj H
        go_enter Tryz.func17, Tryz.ntmps17
        go_wp2_with (first | ((with_reducible refine gate_callee (f := 28) rfl ?_); refine goesL_ (some 12) rfl rfl Tryz.func28 (by kernel_rfl) rfl #[.int .i64 ji4] rfl (by (try simp only [List.map_toArray, List.map_cons, List.map_nil]); first | done | (simp only [hji4]; rfl) | rfl | (simp only [List.length_drop, List.length_take]; rfl)) ?_; (with_reducible refine (spec_Small.calls k ji4 t325 _ A5.out).mono ?_); rintro e w20 ⟨v326, rfl, ho0, hb⟩; refine ⟨_, rfl, ?_⟩; have n0_ := Aside0.mk (Kd.R_lower ho0 (below_size (by repeat (first | (with_reducible first | exact HB.out | apply below_alloc | apply pw_below_drewN | apply below_drew1) | exact HB.out)))); have n1_ := Aside0.mk (below_step (by repeat (first | (with_reducible first | exact HB.out | apply below_alloc | apply pw_below_drewN | apply below_drew1) | exact HB.out)) hb); clear HB; have HO327 := n0_; have HB := n1_; clear n0_ n1_; (try clear hb); (try clear hb2); (try clear hk); (try clear hi); (try clear ho0); obtain ⟨Ao21, co21, eo21⟩ := Kd.R_slice HO327.out; subst eo21) | ((with_reducible refine gate_callee (f := 30) rfl ?_); refine goesL_ (some 13) rfl rfl Tryz.func30 (by kernel_rfl) rfl #[.slice Ao21 t325.length co21] rfl (by (try simp only [List.map_toArray, List.map_cons, List.map_nil]); first | done | rfl | (simp only [List.length_drop, List.length_take]; rfl)) ?_; (with_reducible refine (spec_Digits.calls k (fun k_ => some k_ = (.slice Ao21 t325.length co21 : Value).ownBlock) _ _ t325 t328 _ ?side1 A6.out).mono ?_); (case side1 => exact Kd.R_V (Kd.R_tight rfl (HO327.out))); rintro e w22 ⟨rfl, hb⟩; refine ⟨_, rfl, ?_⟩; have n0_ := Aside0.mk (Kd.R_below (by (with_reducible repeat (first | apply Kd.R_alloc | apply Kd.R_drewN | apply Kd.R_drew)); exact HO327.out) hb); have n1_ := Aside0.mk (below_step (by repeat (first | (with_reducible first | exact HB.out | apply below_alloc | apply pw_below_drewN | apply below_drew1) | exact HB.out)) hb); clear HO327; clear HB; have HO327 := n0_; have HB := n1_; clear n0_ n1_; (try clear hb); (try clear hb2); (try clear hk); (try clear hi)))
        go_ret
        exact ⟨by first | rfl | (simp [errW_none, errW_some] <;> rfl) | (simp only [← hji4]; first | rfl | (simp [errW_none, errW_some] <;> rfl)) | (simp [*, errW_none, errW_some] <;> rfl), by repeat (first | (with_reducible first | exact HB.out | apply below_alloc | apply pw_below_drewN | apply below_drew1) | exact HB.out)⟩
      · rw [if_neg c19] at H
        exact absurd H (by simp)

end Go.Proofs.YtgpoplfgngiilaaGreatDoor.Pr
