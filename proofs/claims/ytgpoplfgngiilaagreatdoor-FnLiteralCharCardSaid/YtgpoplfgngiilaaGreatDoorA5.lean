/- spec.IsInt of an integer that is not below 0. -/
import Derived.Test.YtgpoplfgngiilaaGreatDoorA4
namespace Go.Proofs.YtgpoplfgngiilaaGreatDoor
open Go.RowKit Go.Proofs.YtgpoplfgngiilaaGreatDoorW.PrintWords Go.Proofs.YtgpoplfgngiilaaGreatDoorW.PrintLast Go.Proofs.YtgpoplfgngiilaaGreatDoorW.PrintMore

set_option maxHeartbeats 2000000 in
set_option maxRecDepth 100000 in
/-- spec.IsInt: true of an integer that is not negated, where its digits are the ones asked for. -/
theorem isInt_calls (k : Nat) (A : Option Addr) (c : Nat) (ws l : List Int) (A2 : Option Addr) (c2 : Nat) (l2 : List Int) (A3 : Option Addr) (c3 : Nat) (w : World)
    (hr : Kd.C (Kd.int .u64) w A ws.length ws) (hc : ws.length ≤ c) (hr2 : Kd.C (Kd.int .i64) w A2 l2.length l2) (hc2 : l2.length ≤ c2) (hr3 : Kd.C (Kd.int .i64) w A3 1 [1]) (hc3 : 1 ≤ c3)
    (hOf : Pr.spec_Of.f k ws = some l) (hW : Pr.spec_HasWords.f k ws l = some true) (hS : Pr.spec_same.f k false l [1] false l2 [1] = some true) :
    Calls Tryz.prog 10 #[.agg #[.int .i64 3, .bool false, .string ⟨#[]⟩, .bool false, .slice A ws.length c, .slice none 0 0, .bool false, .slice none 0 0, .slice none 0 0], .agg #[.bool false, .slice A2 l2.length c2, .slice A3 1 c3]] w
      fun e w' => e = .returned (.bool true) ∧ Below w.heap.size w w' := by
  have HB0 := Aside0.mk (((Below.refl w.heap.size w).alloc (Nat.le_refl _) (Obj.cells #[.int .i64 3, .bool false, .string ⟨#[]⟩, .bool false, .slice A ws.length c, .slice none 0 0, .bool false, .slice none 0 0, .slice none 0 0] 26)).alloc (by simp) (Obj.cells #[.bool false, .slice A2 l2.length c2, .slice A3 1 c3] 31))
  have HR := Aside0.mk (Kd.C_below hr HB0.out)
  have HR2 := Aside0.mk hr2
  have HR3 := Aside0.mk hr3
  have HC := Aside0.mk hc
  have HC2 := Aside0.mk hc2
  have HC3 := Aside0.mk hc3
  have HOf := Aside0.mk hOf
  have HW := Aside0.mk hW
  have HS := Aside0.mk hS
  clear hr hr2 hr3 hc hc2 hc3 hOf hW hS
  go_enter Tryz.func10, Tryz.ntmps10
  go_wp2_with (first | (go_at_call 23; go_must (refine (integer_calls k A c ws l _ HR.out HC.out HOf.out HW.out).mono ?_); rintro e w1 ⟨u, v, rfl, hU, hV, hB⟩; have hs := hB.size; simp only [World.size_alloc] at hs; obtain ⟨q1, q2⟩ := bcell hB; simp only [World.size_alloc] at q1 q2; have HU := Aside0.mk hU; have HV := Aside0.mk hV; have HB := Aside0.mk (HB0.out.trans (hB.mono (by simp; omega))); clear hU hV hB; have hz : w.heap.size < w1.heap.size := (by omega); have hz1 : w.heap.size + 1 < w1.heap.size := (by omega); obtain ⟨Au, cu, rfl⟩ := Kd.V_slice HU.out; obtain ⟨Av, cv, rfl⟩ := Kd.V_slice HV.out) | (go_at_call 25; go_must (refine (Pr.spec_same.calls k false Au cu l Av cv [1] false A2 c2 l2 A3 c3 [1] true _ (Kd.C_below (Kd.V_reads' HU.out).2.2 ((Below.refl _ _).alloc (Nat.le_refl _) _)) (Kd.V_reads' HU.out).2.1 (Kd.C_below (Kd.V_reads' HV.out).2.2 ((Below.refl _ _).alloc (Nat.le_refl _) _)) (Kd.V_reads' HV.out).2.1 (Kd.C_below HR2.out (HB.out.alloc (by omega) _)) HC2.out (Kd.C_below HR3.out (HB.out.alloc (by omega) _)) HC3.out HS.out).mono ?_); rintro e w2 ⟨rfl, hB2⟩; have HB2 := Aside0.mk hB2; clear hB2))
  go_ret
  exact ⟨rfl, (HB.out.alloc (by omega) _).trans (HB2.out.mono (by simp; omega))⟩
end Go.Proofs.YtgpoplfgngiilaaGreatDoor
