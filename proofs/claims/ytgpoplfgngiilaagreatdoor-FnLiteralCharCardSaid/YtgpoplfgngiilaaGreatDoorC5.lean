/- FnLiteralChar: the walk, form by form. -/
import Derived.Test.YtgpoplfgngiilaaGreatDoorC4
namespace Go.Proofs.YtgpoplfgngiilaaGreatDoor
open Go.RowKit Go.Proofs.YtgpoplfgngiilaaGreatDoorW.PrintWords Go.Proofs.YtgpoplfgngiilaaGreatDoorW.PrintLast Go.Proofs.YtgpoplfgngiilaaGreatDoorW.PrintMore

set_option maxHeartbeats 8000000 in
set_option maxRecDepth 1000000 in
theorem char_1 (n form : Int) (r : Nat) (w : World) (hn : 0 ≤ n) (hrem : n % 1114112 = (r : Int)) (hr : (r : Int) ≤ 1114111) (hf0 : 0 ≤ form) (hf1 : form ≤ 255) (hf : form % 5 = 1) (hs : decide (55296 ≤ (r : Int)) = false ∨ (decide (55296 ≤ (r : Int)) = true ∧ decide ((r : Int) < 57344) = false)) (q : Nat) (hq : (r : Int) % 256 = (q : Int)) (hq1 : (q : Int) ≤ 255)
    (hra : ReadsAs w (⟨#[92, 120]⟩ ++ bstr ((figs 16 2 q).map (letter false))) q) :
    Calls Tryz.prog 4 #[.int .u32 n, .int .u8 form] w fun e w' => e = .returned (.bool true) ∧ Below w.heap.size w w' := by
  have HX := Aside0.mk (hex_f q 2 (by decide) (by decide) (by omega) 2000 (by decide))
  have HRA := Aside0.mk hra
  have H64 := Aside0.mk (of64_f q (by omega))
  have HIF := Aside0.mk (isInt_facts q (by omega))
  clear hra
  rcases hs with hs | ⟨hs, hs2⟩
  all_goals
    go_enter Tryz.func4, Tryz.ntmps4
    go_wp2_with (first | (go_at_call 13; go_must (refine (Pr.spec_Hex.calls 2000 _ _ _ _ HX.out).mono ?_); rintro e w1 ⟨rfl, hB⟩; have HB1 := hB; clear hB) | (go_at_call 11; go_must (refine (lit_q _ q _ w (by first | assumption | exact Below.refl _ _ | exact HB0.out) HRA.out).mono ?_); rintro e w2 ⟨v, rfl, hR2, hB2⟩; have HR2 := Aside0.mk hR2; have HB2 := Aside0.mk hB2; clear hR2 hB2; obtain ⟨Av, cv, rfl, -⟩ := Kd.R_reads HR2.out) | (go_at_call 14; go_must (refine (Pr.spec_Of64.calls 2000 _ false (lits 65536 q) [1] _ H64.out).mono ?_); rintro e w3 ⟨v1, v2, rfl, hV, hR3, hB3⟩; have HV := Aside0.mk hV; have HR3 := Aside0.mk hR3; have HB3 := Aside0.mk hB3; clear hV hR3 hB3; obtain ⟨A1, c1, rfl⟩ := Kd.V_slice HV.out; obtain ⟨A3, c3, rfl, -⟩ := Kd.R_reads HR3.out) | (go_at_call 10; go_must (refine (isInt_calls 2000 Av cv (wordsOf64 q) (lits 65536 q) A1 c1 (lits 65536 q) A3 c3 _ (Kd.C_below (Kd.R_reads' HR2.out).2.2 HB3.out) (Kd.R_reads' HR2.out).2.1 (Kd.V_reads' HV.out).2.2 (Kd.V_reads' HV.out).2.1 (Kd.R_reads' HR3.out).2.2 (Kd.R_reads' HR3.out).2.1 HIF.out.1 HIF.out.2.1 HIF.out.2.2).mono ?_); rintro e w4 ⟨rfl, hB4⟩; have HB4 := Aside0.mk hB4; clear hB4))
    go_ret
    exact ⟨rfl, below_step (below_step (below_step HB1 HB2.out) HB3.out) HB4.out⟩

set_option maxHeartbeats 8000000 in
set_option maxRecDepth 1000000 in
theorem char_3 (n form : Int) (r : Nat) (w : World) (hn : 0 ≤ n) (hrem : n % 1114112 = (r : Int)) (hr : (r : Int) ≤ 1114111) (hf0 : 0 ≤ form) (hf1 : form ≤ 255) (hf : form % 5 = 3) (hs : decide (55296 ≤ (r : Int)) = false ∨ (decide (55296 ≤ (r : Int)) = true ∧ decide ((r : Int) < 57344) = false)) (h3 : (r : Int) ≤ 65535)
    (hra : ReadsAs w (⟨#[92, 117]⟩ ++ bstr ((figs 16 4 r).map (letter false))) r) :
    Calls Tryz.prog 4 #[.int .u32 n, .int .u8 form] w fun e w' => e = .returned (.bool true) ∧ Below w.heap.size w w' := by
  have HX := Aside0.mk (hex_f r 4 (by decide) (by decide) (by omega) 2000 (by decide))
  have HRA := Aside0.mk hra
  have H64 := Aside0.mk (of64_f r (by omega))
  have HIF := Aside0.mk (isInt_facts r (by omega))
  clear hra
  rcases hs with hs | ⟨hs, hs2⟩
  all_goals
    go_enter Tryz.func4, Tryz.ntmps4
    go_wp2_with (first | (go_at_call 13; go_must (refine (Pr.spec_Hex.calls 2000 _ _ _ _ HX.out).mono ?_); rintro e w1 ⟨rfl, hB⟩; have HB1 := hB; clear hB) | (go_at_call 11; go_must (refine (lit_q _ r _ w (by first | assumption | exact Below.refl _ _ | exact HB0.out) HRA.out).mono ?_); rintro e w2 ⟨v, rfl, hR2, hB2⟩; have HR2 := Aside0.mk hR2; have HB2 := Aside0.mk hB2; clear hR2 hB2; obtain ⟨Av, cv, rfl, -⟩ := Kd.R_reads HR2.out) | (go_at_call 14; go_must (refine (Pr.spec_Of64.calls 2000 _ false (lits 65536 r) [1] _ H64.out).mono ?_); rintro e w3 ⟨v1, v2, rfl, hV, hR3, hB3⟩; have HV := Aside0.mk hV; have HR3 := Aside0.mk hR3; have HB3 := Aside0.mk hB3; clear hV hR3 hB3; obtain ⟨A1, c1, rfl⟩ := Kd.V_slice HV.out; obtain ⟨A3, c3, rfl, -⟩ := Kd.R_reads HR3.out) | (go_at_call 10; go_must (refine (isInt_calls 2000 Av cv (wordsOf64 r) (lits 65536 r) A1 c1 (lits 65536 r) A3 c3 _ (Kd.C_below (Kd.R_reads' HR2.out).2.2 HB3.out) (Kd.R_reads' HR2.out).2.1 (Kd.V_reads' HV.out).2.2 (Kd.V_reads' HV.out).2.1 (Kd.R_reads' HR3.out).2.2 (Kd.R_reads' HR3.out).2.1 HIF.out.1 HIF.out.2.1 HIF.out.2.2).mono ?_); rintro e w4 ⟨rfl, hB4⟩; have HB4 := Aside0.mk hB4; clear hB4))
    go_ret
    exact ⟨rfl, below_step (below_step (below_step HB1 HB2.out) HB3.out) HB4.out⟩

set_option maxHeartbeats 8000000 in
set_option maxRecDepth 1000000 in
theorem char_4 (n form : Int) (r : Nat) (w : World) (hn : 0 ≤ n) (hrem : n % 1114112 = (r : Int)) (hr : (r : Int) ≤ 1114111) (hf0 : 0 ≤ form) (hf1 : form ≤ 255) (hf : form % 5 = 4) (hs : decide (55296 ≤ (r : Int)) = false ∨ (decide (55296 ≤ (r : Int)) = true ∧ decide ((r : Int) < 57344) = false))
    (hra : ReadsAs w (⟨#[92, 85]⟩ ++ bstr ((figs 16 8 r).map (letter false))) r) :
    Calls Tryz.prog 4 #[.int .u32 n, .int .u8 form] w fun e w' => e = .returned (.bool true) ∧ Below w.heap.size w w' := by
  have HX := Aside0.mk (hex_f r 8 (by decide) (by decide) (by omega) 2000 (by decide))
  have HRA := Aside0.mk hra
  have H64 := Aside0.mk (of64_f r (by omega))
  have HIF := Aside0.mk (isInt_facts r (by omega))
  clear hra
  rcases hs with hs | ⟨hs, hs2⟩
  all_goals
    go_enter Tryz.func4, Tryz.ntmps4
    go_wp2_with (first | (go_at_call 13; go_must (refine (Pr.spec_Hex.calls 2000 _ _ _ _ HX.out).mono ?_); rintro e w1 ⟨rfl, hB⟩; have HB1 := hB; clear hB) | (go_at_call 11; go_must (refine (lit_q _ r _ w (by first | assumption | exact Below.refl _ _ | exact HB0.out) HRA.out).mono ?_); rintro e w2 ⟨v, rfl, hR2, hB2⟩; have HR2 := Aside0.mk hR2; have HB2 := Aside0.mk hB2; clear hR2 hB2; obtain ⟨Av, cv, rfl, -⟩ := Kd.R_reads HR2.out) | (go_at_call 14; go_must (refine (Pr.spec_Of64.calls 2000 _ false (lits 65536 r) [1] _ H64.out).mono ?_); rintro e w3 ⟨v1, v2, rfl, hV, hR3, hB3⟩; have HV := Aside0.mk hV; have HR3 := Aside0.mk hR3; have HB3 := Aside0.mk hB3; clear hV hR3 hB3; obtain ⟨A1, c1, rfl⟩ := Kd.V_slice HV.out; obtain ⟨A3, c3, rfl, -⟩ := Kd.R_reads HR3.out) | (go_at_call 10; go_must (refine (isInt_calls 2000 Av cv (wordsOf64 r) (lits 65536 r) A1 c1 (lits 65536 r) A3 c3 _ (Kd.C_below (Kd.R_reads' HR2.out).2.2 HB3.out) (Kd.R_reads' HR2.out).2.1 (Kd.V_reads' HV.out).2.2 (Kd.V_reads' HV.out).2.1 (Kd.R_reads' HR3.out).2.2 (Kd.R_reads' HR3.out).2.1 HIF.out.1 HIF.out.2.1 HIF.out.2.2).mono ?_); rintro e w4 ⟨rfl, hB4⟩; have HB4 := Aside0.mk hB4; clear hB4))
    go_ret
    exact ⟨rfl, below_step (below_step (below_step HB1 HB2.out) HB3.out) HB4.out⟩

end Go.Proofs.YtgpoplfgngiilaaGreatDoor
