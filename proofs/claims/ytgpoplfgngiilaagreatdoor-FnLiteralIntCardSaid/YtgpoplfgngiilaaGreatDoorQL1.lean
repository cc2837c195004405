/- FnLiteralInt at the forms 0 1 2 3. -/
import Derived.Test.YtgpoplfgngiilaaGreatDoorQL0
set_option linter.unusedVariables false
set_option linter.unusedSimpArgs false
namespace Go.Proofs.YtgpoplfgngiilaaGreatDoor
open Go.RowKit Go.Proofs.YtgpoplfgngiilaaGreatDoorW.PrintWords Go.Proofs.YtgpoplfgngiilaaGreatDoorW.PrintLast Go.Proofs.YtgpoplfgngiilaaGreatDoorW.PrintMore

theorem ix34_0 (W : World) : (Instr.index 34 (.agg #[.int .i64 10, .int .i64 16, .int .i64 16, .int .i64 2, .int .i64 2, .int .i64 8, .int .i64 8, .int .i64 8]) (.int .i64 0)).run Tryz.prog W = .ok (.int .i64 10) W := by kernel_rfl
theorem ix35_0 (W : World) : (Instr.index 35 (.agg #[.string ⟨#[]⟩, .string ⟨#[48, 120]⟩, .string ⟨#[48, 88]⟩, .string ⟨#[48, 98]⟩, .string ⟨#[48, 66]⟩, .string ⟨#[48, 111]⟩, .string ⟨#[48, 79]⟩, .string ⟨#[48]⟩]) (.int .i64 0)).run Tryz.prog W = .ok (.string ⟨#[]⟩) W := by kernel_rfl
attribute [local go_sem] ix34_0 ix35_0
set_option maxHeartbeats 8000000 in
set_option maxRecDepth 100000 in
theorem int_0 (V : Nat) (hV : V < 18446744073709551616 ^ 10) (te : TypeId) (pe ev : Value) (kind : Int) (a1 : Bool) (a2 : ByteArray) (a3 : Bool) (A4 : Option Addr) (n4 c4 : Nat) (A5 : Option Addr) (n5 c5 : Nat) (a6 : Bool) (A7 : Option Addr) (n7 c7 : Nat) (A8 : Option Addr) (n8 c8 : Nat) (form : Int) (great split : Bool) (w : World)
    (hf0 : 0 ≤ form) (hf1 : form ≤ 255) (hf : form % 8 = 0) (hE : Errs w te pe ev) (hIT : IntText (bstr ([] ++ us split (txt great 10 V))) V te pe)
    (hF : ∀ W, Below w.heap.size w W → Calls Tryz.prog 6 #[.agg #[.int .i64 kind, .bool a1, .string a2, .bool a3, .slice A4 n4 c4, .slice A5 n5 c5, .bool a6, .slice A7 n7 c7, .slice A8 n8 c8]] W fun e w' => e = .returned (.bool true) ∧ Below W.heap.size W w')
    (hW : ∀ W, Below w.heap.size w W → Calls Tryz.prog 7 #[.agg #[.int .i64 kind, .bool a1, .string a2, .bool a3, .slice A4 n4 c4, .slice A5 n5 c5, .bool a6, .slice A7 n7 c7, .slice A8 n8 c8], .int .i64 10] W fun e w' => ∃ u v, e = .returned (.tuple #[.agg #[.bool false, u, v], .bool true]) ∧ Rt (some (lits 65536 V)) W.heap.size w' u v ∧ Below W.heap.size W w') :
    Calls Tryz.prog 3 #[.agg #[.int .i64 kind, .bool a1, .string a2, .bool a3, .slice A4 n4 c4, .slice A5 n5 c5, .bool a6, .slice A7 n7 c7, .slice A8 n8 c8], .int .u8 form, .bool great, .bool split] w fun e w' => e = .returned (.bool true) ∧ Below w.heap.size w w' := by
  have HB0 := Aside0.mk (show Below w.heap.size w (w.alloc (Obj.cells #[.int .i64 kind, .bool a1, .string a2, .bool a3, .slice A4 n4 c4, .slice A5 n5 c5, .bool a6, .slice A7 n7 c7, .slice A8 n8 c8] 26)) from (Below.refl w.heap.size w).alloc (Nat.le_refl _) _)
  obtain ⟨hd1, hd2⟩ := digits_len V hV
  obtain ⟨ht1, ht2⟩ := txt_len great 10 V (by decide) hV
  have hul := us_len split (txt great 10 V)
  have hIB := inBase_f great 10 V (by decide) (by decide) (by omega) (by have := lits_len_le 10 V (by decide) hV; omega) 2000 (by have := lits_len_le 10 V (by decide) hV; omega)
  have hUS := us_f split (txt great 10 V) (by omega)
  have hcat : (⟨#[]⟩ : ByteArray) ++ bstr (us split (txt great 10 V)) = bstr ([] ++ us split (txt great 10 V)) := bstr_append [] _
  have hsz : (⟨#[]⟩ : ByteArray).size + (bstr (us split (txt great 10 V))).size ≤ 9223372036854775807 := by
    rw [bstr_size]
    show 0 + _ ≤ _
    omega
  have hLI := fun W (hB : Below w.heap.size w W) => literal_int (bstr ([] ++ us split (txt great 10 V))) V te pe ev W hIT (hE.below hB) (by omega)
  rw [← hcat] at hLI
  obtain ⟨S, hS⟩ : ∃ S, bstr (us split (txt great 10 V)) = S := ⟨_, rfl⟩
  obtain ⟨T, hT⟩ : ∃ T, bstr (txt great 10 V) = T := ⟨_, rfl⟩
  rw [hS] at hLI hUS hsz
  rw [hT] at hIB hUS
  have hsz2 : ((⟨#[]⟩ : ByteArray).size + S.size : Int) ≤ 9223372036854775807 := by omega
  have hsz3 : 0 + S.size ≤ 9223372036854775807 := hsz
  have hsz5 : ¬ 9223372036854775807 < 0 + S.size := by omega
  have hsz6 : ¬ 9223372036854775807 < S.size := by omega
  have hsz4 : (0 : Int) + (S.size : Int) ≤ 9223372036854775807 := by omega
  have HF := Aside0.mk hF
  have HW := Aside0.mk hW
  have HIB := Aside0.mk hIB
  have HUS := Aside0.mk hUS
  have HLI := Aside0.mk hLI
  have HII := Aside0.mk (isInt_big V hV)
  clear hF hW hIB hUS hLI hIT hE hV hd1 hd2 ht1 ht2 hul hcat hS hT
  go_enter Tryz.func3, Tryz.ntmps3
  go_wp2_with (first | (go_at_call 6; go_must (refine (HF.out _ HB0.out).mono ?_); rintro e w1 ⟨rfl, hb1⟩; have HB1 := Aside0.mk (HB0.out.trans (hb1.mono HB0.out.size)); have g0 : ∀ i, w1.cell? ⟨w.heap.size, i, none⟩ = (#[Value.int .i64 kind, .bool a1, .string a2, .bool a3, .slice A4 n4 c4, .slice A5 n5 c5, .bool a6, .slice A7 n7 c7, .slice A8 n8 c8])[i]? := (fun i => ((bcell hb1).1 w.heap.size i (by simp)).trans (World.cell?_alloc_at _ _ _ _ rfl)); have e0 := g0 0; have e1 := g0 1; have e2 := g0 2; have e3 := g0 3; have e4 := g0 4; have e5 := g0 5; have e6 := g0 6; have e7 := g0 7; have e8 := g0 8; clear hb1 g0) | (go_at_call 7; go_must (refine (HW.out _ HB1.out).mono ?_); rintro e w2 ⟨u, v, rfl, hU, hb2⟩; have HU := Aside0.mk hU; have HB2 := Aside0.mk (HB1.out.trans (hb2.mono HB1.out.size)); obtain ⟨Au, cu, rfl⟩ := Kd.V_slice hU.1; obtain ⟨Av, cv, rfl⟩ := Kd.V_slice hU.2; clear hU hb2 e0 e1 e2 e3 e4 e5 e6 e7 e8))
  obtain ⟨W0, hW0⟩ : ∃ W0, W0 = w2.alloc (Obj.cells #[.bool false, .slice Au (lits 65536 V).length cu, .slice Av 1 cv] 31) := ⟨_, rfl⟩
  have hgz : w2.heap.size < W0.heap.size := by rw [hW0]; simp
  have d0 : W0.cell? ⟨w2.heap.size, 0, none⟩ = some (.bool false) := by rw [hW0]; go_simp
  have d1 : W0.cell? ⟨w2.heap.size, 1, none⟩ = some (.slice Au (lits 65536 V).length cu) := by rw [hW0]; go_simp
  have d2 : W0.cell? ⟨w2.heap.size, 2, none⟩ = some (.slice Av 1 cv) := by rw [hW0]; go_simp
  have HBW := Aside0.mk (show Below w.heap.size w W0 by rw [hW0]; exact HB2.out.alloc HB2.out.size _)
  have HUW := Aside0.mk (show Kd.V (Kd.int .i64) 3 W0 w1.heap.size (fun k_ => w1.heap.size ≤ k_) (.slice Au (lits 65536 V).length cu) (lits 65536 V) ∧ Kd.V (Kd.int .i64) 3 W0 w1.heap.size (fun k_ => w1.heap.size ≤ k_) (.slice Av 1 cv) [1] by rw [hW0]; exact ⟨Kd.V_alloc HU.out.1 _, Kd.V_alloc HU.out.2 _⟩)
  rw [← hW0]
  clear hW0
  have hb0 := Below.refl W0.heap.size W0
  go_region_held3 (fun w' => w'.cell? ⟨w2.heap.size, 0, none⟩ = some (.bool false) ∧ w'.cell? ⟨w2.heap.size, 1, none⟩ = some (.slice Au (lits 65536 V).length cu) ∧ w'.cell? ⟨w2.heap.size, 2, none⟩ = some (.slice Av 1 cv) ∧ Below W0.heap.size W0 w')
    ((exact keepR (by repeat (first | assumption | apply Below.drew | apply pw_below_drewN | (refine Below.alloc ?_ (by first | exact Nat.le_refl _ | (simp; done) | omega | (simp; omega)) _))) hgz d0 d1 d2))
    (first | (go_at_call 9; refine (Pr.spec_InBase.calls 2000 (fun k_ => w1.heap.size ≤ k_) Au cu (lits 65536 V) 10 great T _ (anyBase (Kd.V_below HUW.out.1 (by repeat (first | assumption | apply Below.drew | apply pw_below_drewN | (refine Below.alloc ?_ (by first | exact Nat.le_refl _ | (simp; done) | omega | (simp; omega)) _))))) HIB.out).mono ?_; rintro e w3 ⟨rfl, hb3⟩; have hb4 : Below W0.heap.size W0 w3 := Below.trans (by repeat (first | assumption | apply Below.drew | apply pw_below_drewN | (refine Below.alloc ?_ (by first | exact Nat.le_refl _ | (simp; done) | omega | (simp; omega)) _))) (hb3.mono (by first | exact Nat.le_refl _ | (simp; done))); clear hb3) | (go_at_call 8; refine (Pr.laws_underscored.calls T split S _ HUS.out).mono ?_; rintro e w4 ⟨rfl, ⟨nd, rfl⟩⟩))
  all_goals
    have hX : Below W0.heap.size W0 (w3.drewN nd) := by repeat (first | assumption | apply Below.drew | apply pw_below_drewN)
    obtain ⟨q0, q1, q2, -⟩ := keepR hX hgz d0 d1 d2
    have hxw : Below w.heap.size w (w3.drewN nd) := HBW.out.trans (hX.mono HBW.out.size)
    generalize w3.drewN nd = W9 at *
    have hg9 : w2.heap.size < W9.heap.size := by have := hX.size; omega
    have HX := Aside0.mk hX
    have hbX := Below.refl W9.heap.size W9
    clear hb0 hX d0 d1 d2 hb4 hgz
    go_wp2_with fail
    go_region_held3 (fun w' => w'.cell? ⟨w2.heap.size, 0, none⟩ = some (.bool false) ∧ w'.cell? ⟨w2.heap.size, 1, none⟩ = some (.slice Au (lits 65536 V).length cu) ∧ w'.cell? ⟨w2.heap.size, 2, none⟩ = some (.slice Av 1 cv) ∧ Below W9.heap.size W9 w')
      ((exact keepR (by repeat (first | assumption | apply Below.drew | apply pw_below_drewN | (refine Below.alloc ?_ (by first | exact Nat.le_refl _ | (simp; done) | omega | (simp; omega)) _))) hg9 q0 q1 q2))
      (first | (go_at_call 11; refine (HLI.out _ (by repeat (first | assumption | apply Below.drew | apply pw_below_drewN | (refine Below.alloc ?_ (by first | exact Nat.le_refl _ | (simp; done) | omega | (simp; omega)) _)))).mono ?_; rintro e w5 ⟨v, rfl, hR5, hB5⟩; obtain ⟨Ax, cx, rfl, -⟩ := Kd.R_reads hR5; have HR5 := Aside0.mk hR5; have hb5 : Below W9.heap.size W9 w5 := Below.trans (by repeat (first | assumption | apply Below.drew | apply pw_below_drewN | (refine Below.alloc ?_ (by first | exact Nat.le_refl _ | (simp; done) | omega | (simp; omega)) _))) (hB5.mono (by first | exact Nat.le_refl _ | (simp; done))); have hxw5 : Below w.heap.size w w5 := hxw.trans (hb5.mono hxw.size); have HC2 := Aside0.mk (Kd.C_below (Kd.V_reads' HUW.out.1).2.2 (HX.out.trans (hb5.mono HX.out.size))); have HC3 := Aside0.mk (Kd.C_below (Kd.V_reads' HUW.out.2).2.2 (HX.out.trans (hb5.mono HX.out.size))); have hr5 := Below.refl w5.heap.size w5; clear hR5 hB5) | (go_at_call 10; refine (isInt_calls 2000 Ax cx (lits 18446744073709551616 V) (lits 65536 V) Au cu (lits 65536 V) Av cv _ (Kd.C_below (Kd.R_reads' HR5.out).2.2 (by repeat (first | assumption | apply Below.drew | apply pw_below_drewN | (refine Below.alloc ?_ (by first | exact Nat.le_refl _ | (simp; done) | omega | (simp; omega)) _)))) (Kd.R_reads' HR5.out).2.1 (Kd.C_below HC2.out (by repeat (first | assumption | apply Below.drew | apply pw_below_drewN | (refine Below.alloc ?_ (by first | exact Nat.le_refl _ | (simp; done) | omega | (simp; omega)) _)))) (Kd.V_reads' HUW.out.1).2.1 (Kd.C_below HC3.out (by repeat (first | assumption | apply Below.drew | apply pw_below_drewN | (refine Below.alloc ?_ (by first | exact Nat.le_refl _ | (simp; done) | omega | (simp; omega)) _)))) (Kd.V_reads' HUW.out.2).2.1 HII.out.1 HII.out.2.1 HII.out.2.2).mono ?_; rintro e w6 ⟨rfl, hB6⟩; have hb6 : Below W9.heap.size W9 w6 := Below.trans (by repeat (first | assumption | apply Below.drew | apply pw_below_drewN | (refine Below.alloc ?_ (by first | exact Nat.le_refl _ | (simp; done) | omega | (simp; omega)) _))) (hB6.mono (by first | exact hb5.size | (have := hb5.size; simp; omega))); have hxw6 : Below w.heap.size w w6 := hxw.trans (hb6.mono hxw.size); clear hB6))
    all_goals
      go_wp2_with fail
      go_ret
      exact ⟨rfl, by repeat (first | assumption | apply Below.drew | apply pw_below_drewN)⟩

theorem ix34_1 (W : World) : (Instr.index 34 (.agg #[.int .i64 10, .int .i64 16, .int .i64 16, .int .i64 2, .int .i64 2, .int .i64 8, .int .i64 8, .int .i64 8]) (.int .i64 1)).run Tryz.prog W = .ok (.int .i64 16) W := by kernel_rfl
theorem ix35_1 (W : World) : (Instr.index 35 (.agg #[.string ⟨#[]⟩, .string ⟨#[48, 120]⟩, .string ⟨#[48, 88]⟩, .string ⟨#[48, 98]⟩, .string ⟨#[48, 66]⟩, .string ⟨#[48, 111]⟩, .string ⟨#[48, 79]⟩, .string ⟨#[48]⟩]) (.int .i64 1)).run Tryz.prog W = .ok (.string ⟨#[48, 120]⟩) W := by kernel_rfl
attribute [local go_sem] ix34_1 ix35_1
set_option maxHeartbeats 8000000 in
set_option maxRecDepth 100000 in
theorem int_1 (V : Nat) (hV : V < 18446744073709551616 ^ 10) (te : TypeId) (pe ev : Value) (kind : Int) (a1 : Bool) (a2 : ByteArray) (a3 : Bool) (A4 : Option Addr) (n4 c4 : Nat) (A5 : Option Addr) (n5 c5 : Nat) (a6 : Bool) (A7 : Option Addr) (n7 c7 : Nat) (A8 : Option Addr) (n8 c8 : Nat) (form : Int) (great split : Bool) (w : World)
    (hf0 : 0 ≤ form) (hf1 : form ≤ 255) (hf : form % 8 = 1) (hE : Errs w te pe ev) (hIT : IntText (bstr ([48, 120] ++ us split (txt great 16 V))) V te pe)
    (hF : ∀ W, Below w.heap.size w W → Calls Tryz.prog 6 #[.agg #[.int .i64 kind, .bool a1, .string a2, .bool a3, .slice A4 n4 c4, .slice A5 n5 c5, .bool a6, .slice A7 n7 c7, .slice A8 n8 c8]] W fun e w' => e = .returned (.bool true) ∧ Below W.heap.size W w')
    (hW : ∀ W, Below w.heap.size w W → Calls Tryz.prog 7 #[.agg #[.int .i64 kind, .bool a1, .string a2, .bool a3, .slice A4 n4 c4, .slice A5 n5 c5, .bool a6, .slice A7 n7 c7, .slice A8 n8 c8], .int .i64 10] W fun e w' => ∃ u v, e = .returned (.tuple #[.agg #[.bool false, u, v], .bool true]) ∧ Rt (some (lits 65536 V)) W.heap.size w' u v ∧ Below W.heap.size W w') :
    Calls Tryz.prog 3 #[.agg #[.int .i64 kind, .bool a1, .string a2, .bool a3, .slice A4 n4 c4, .slice A5 n5 c5, .bool a6, .slice A7 n7 c7, .slice A8 n8 c8], .int .u8 form, .bool great, .bool split] w fun e w' => e = .returned (.bool true) ∧ Below w.heap.size w w' := by
  have HB0 := Aside0.mk (show Below w.heap.size w (w.alloc (Obj.cells #[.int .i64 kind, .bool a1, .string a2, .bool a3, .slice A4 n4 c4, .slice A5 n5 c5, .bool a6, .slice A7 n7 c7, .slice A8 n8 c8] 26)) from (Below.refl w.heap.size w).alloc (Nat.le_refl _) _)
  obtain ⟨hd1, hd2⟩ := digits_len V hV
  obtain ⟨ht1, ht2⟩ := txt_len great 16 V (by decide) hV
  have hul := us_len split (txt great 16 V)
  have hIB := inBase_f great 16 V (by decide) (by decide) (by omega) (by have := lits_len_le 16 V (by decide) hV; omega) 2000 (by have := lits_len_le 16 V (by decide) hV; omega)
  have hUS := us_f split (txt great 16 V) (by omega)
  have hcat : (⟨#[48, 120]⟩ : ByteArray) ++ bstr (us split (txt great 16 V)) = bstr ([48, 120] ++ us split (txt great 16 V)) := bstr_append [48, 120] _
  have hsz : (⟨#[48, 120]⟩ : ByteArray).size + (bstr (us split (txt great 16 V))).size ≤ 9223372036854775807 := by
    rw [bstr_size]
    show 2 + _ ≤ _
    omega
  have hLI := fun W (hB : Below w.heap.size w W) => literal_int (bstr ([48, 120] ++ us split (txt great 16 V))) V te pe ev W hIT (hE.below hB) (by omega)
  rw [← hcat] at hLI
  obtain ⟨S, hS⟩ : ∃ S, bstr (us split (txt great 16 V)) = S := ⟨_, rfl⟩
  obtain ⟨T, hT⟩ : ∃ T, bstr (txt great 16 V) = T := ⟨_, rfl⟩
  rw [hS] at hLI hUS hsz
  rw [hT] at hIB hUS
  have hsz2 : ((⟨#[48, 120]⟩ : ByteArray).size + S.size : Int) ≤ 9223372036854775807 := by omega
  have hsz3 : 2 + S.size ≤ 9223372036854775807 := hsz
  have hsz5 : ¬ 9223372036854775807 < 2 + S.size := by omega
  have hsz4 : (2 : Int) + (S.size : Int) ≤ 9223372036854775807 := by omega
  have HF := Aside0.mk hF
  have HW := Aside0.mk hW
  have HIB := Aside0.mk hIB
  have HUS := Aside0.mk hUS
  have HLI := Aside0.mk hLI
  have HII := Aside0.mk (isInt_big V hV)
  clear hF hW hIB hUS hLI hIT hE hV hd1 hd2 ht1 ht2 hul hcat hS hT
  go_enter Tryz.func3, Tryz.ntmps3
  go_wp2_with (first | (go_at_call 6; go_must (refine (HF.out _ HB0.out).mono ?_); rintro e w1 ⟨rfl, hb1⟩; have HB1 := Aside0.mk (HB0.out.trans (hb1.mono HB0.out.size)); have g0 : ∀ i, w1.cell? ⟨w.heap.size, i, none⟩ = (#[Value.int .i64 kind, .bool a1, .string a2, .bool a3, .slice A4 n4 c4, .slice A5 n5 c5, .bool a6, .slice A7 n7 c7, .slice A8 n8 c8])[i]? := (fun i => ((bcell hb1).1 w.heap.size i (by simp)).trans (World.cell?_alloc_at _ _ _ _ rfl)); have e0 := g0 0; have e1 := g0 1; have e2 := g0 2; have e3 := g0 3; have e4 := g0 4; have e5 := g0 5; have e6 := g0 6; have e7 := g0 7; have e8 := g0 8; clear hb1 g0) | (go_at_call 7; go_must (refine (HW.out _ HB1.out).mono ?_); rintro e w2 ⟨u, v, rfl, hU, hb2⟩; have HU := Aside0.mk hU; have HB2 := Aside0.mk (HB1.out.trans (hb2.mono HB1.out.size)); obtain ⟨Au, cu, rfl⟩ := Kd.V_slice hU.1; obtain ⟨Av, cv, rfl⟩ := Kd.V_slice hU.2; clear hU hb2 e0 e1 e2 e3 e4 e5 e6 e7 e8))
  obtain ⟨W0, hW0⟩ : ∃ W0, W0 = w2.alloc (Obj.cells #[.bool false, .slice Au (lits 65536 V).length cu, .slice Av 1 cv] 31) := ⟨_, rfl⟩
  have hgz : w2.heap.size < W0.heap.size := by rw [hW0]; simp
  have d0 : W0.cell? ⟨w2.heap.size, 0, none⟩ = some (.bool false) := by rw [hW0]; go_simp
  have d1 : W0.cell? ⟨w2.heap.size, 1, none⟩ = some (.slice Au (lits 65536 V).length cu) := by rw [hW0]; go_simp
  have d2 : W0.cell? ⟨w2.heap.size, 2, none⟩ = some (.slice Av 1 cv) := by rw [hW0]; go_simp
  have HBW := Aside0.mk (show Below w.heap.size w W0 by rw [hW0]; exact HB2.out.alloc HB2.out.size _)
  have HUW := Aside0.mk (show Kd.V (Kd.int .i64) 3 W0 w1.heap.size (fun k_ => w1.heap.size ≤ k_) (.slice Au (lits 65536 V).length cu) (lits 65536 V) ∧ Kd.V (Kd.int .i64) 3 W0 w1.heap.size (fun k_ => w1.heap.size ≤ k_) (.slice Av 1 cv) [1] by rw [hW0]; exact ⟨Kd.V_alloc HU.out.1 _, Kd.V_alloc HU.out.2 _⟩)
  rw [← hW0]
  clear hW0
  have hb0 := Below.refl W0.heap.size W0
  go_region_held3 (fun w' => w'.cell? ⟨w2.heap.size, 0, none⟩ = some (.bool false) ∧ w'.cell? ⟨w2.heap.size, 1, none⟩ = some (.slice Au (lits 65536 V).length cu) ∧ w'.cell? ⟨w2.heap.size, 2, none⟩ = some (.slice Av 1 cv) ∧ Below W0.heap.size W0 w')
    ((exact keepR (by repeat (first | assumption | apply Below.drew | apply pw_below_drewN | (refine Below.alloc ?_ (by first | exact Nat.le_refl _ | (simp; done) | omega | (simp; omega)) _))) hgz d0 d1 d2))
    (first | (go_at_call 9; refine (Pr.spec_InBase.calls 2000 (fun k_ => w1.heap.size ≤ k_) Au cu (lits 65536 V) 16 great T _ (anyBase (Kd.V_below HUW.out.1 (by repeat (first | assumption | apply Below.drew | apply pw_below_drewN | (refine Below.alloc ?_ (by first | exact Nat.le_refl _ | (simp; done) | omega | (simp; omega)) _))))) HIB.out).mono ?_; rintro e w3 ⟨rfl, hb3⟩; have hb4 : Below W0.heap.size W0 w3 := Below.trans (by repeat (first | assumption | apply Below.drew | apply pw_below_drewN | (refine Below.alloc ?_ (by first | exact Nat.le_refl _ | (simp; done) | omega | (simp; omega)) _))) (hb3.mono (by first | exact Nat.le_refl _ | (simp; done))); clear hb3) | (go_at_call 8; refine (Pr.laws_underscored.calls T split S _ HUS.out).mono ?_; rintro e w4 ⟨rfl, ⟨nd, rfl⟩⟩))
  all_goals
    have hX : Below W0.heap.size W0 (w3.drewN nd) := by repeat (first | assumption | apply Below.drew | apply pw_below_drewN)
    obtain ⟨q0, q1, q2, -⟩ := keepR hX hgz d0 d1 d2
    have hxw : Below w.heap.size w (w3.drewN nd) := HBW.out.trans (hX.mono HBW.out.size)
    generalize w3.drewN nd = W9 at *
    have hg9 : w2.heap.size < W9.heap.size := by have := hX.size; omega
    have HX := Aside0.mk hX
    have hbX := Below.refl W9.heap.size W9
    clear hb0 hX d0 d1 d2 hb4 hgz
    go_wp2_with fail
    go_region_held3 (fun w' => w'.cell? ⟨w2.heap.size, 0, none⟩ = some (.bool false) ∧ w'.cell? ⟨w2.heap.size, 1, none⟩ = some (.slice Au (lits 65536 V).length cu) ∧ w'.cell? ⟨w2.heap.size, 2, none⟩ = some (.slice Av 1 cv) ∧ Below W9.heap.size W9 w')
      ((exact keepR (by repeat (first | assumption | apply Below.drew | apply pw_below_drewN | (refine Below.alloc ?_ (by first | exact Nat.le_refl _ | (simp; done) | omega | (simp; omega)) _))) hg9 q0 q1 q2))
      (first | (go_at_call 11; refine (HLI.out _ (by repeat (first | assumption | apply Below.drew | apply pw_below_drewN | (refine Below.alloc ?_ (by first | exact Nat.le_refl _ | (simp; done) | omega | (simp; omega)) _)))).mono ?_; rintro e w5 ⟨v, rfl, hR5, hB5⟩; obtain ⟨Ax, cx, rfl, -⟩ := Kd.R_reads hR5; have HR5 := Aside0.mk hR5; have hb5 : Below W9.heap.size W9 w5 := Below.trans (by repeat (first | assumption | apply Below.drew | apply pw_below_drewN | (refine Below.alloc ?_ (by first | exact Nat.le_refl _ | (simp; done) | omega | (simp; omega)) _))) (hB5.mono (by first | exact Nat.le_refl _ | (simp; done))); have hxw5 : Below w.heap.size w w5 := hxw.trans (hb5.mono hxw.size); have HC2 := Aside0.mk (Kd.C_below (Kd.V_reads' HUW.out.1).2.2 (HX.out.trans (hb5.mono HX.out.size))); have HC3 := Aside0.mk (Kd.C_below (Kd.V_reads' HUW.out.2).2.2 (HX.out.trans (hb5.mono HX.out.size))); have hr5 := Below.refl w5.heap.size w5; clear hR5 hB5) | (go_at_call 10; refine (isInt_calls 2000 Ax cx (lits 18446744073709551616 V) (lits 65536 V) Au cu (lits 65536 V) Av cv _ (Kd.C_below (Kd.R_reads' HR5.out).2.2 (by repeat (first | assumption | apply Below.drew | apply pw_below_drewN | (refine Below.alloc ?_ (by first | exact Nat.le_refl _ | (simp; done) | omega | (simp; omega)) _)))) (Kd.R_reads' HR5.out).2.1 (Kd.C_below HC2.out (by repeat (first | assumption | apply Below.drew | apply pw_below_drewN | (refine Below.alloc ?_ (by first | exact Nat.le_refl _ | (simp; done) | omega | (simp; omega)) _)))) (Kd.V_reads' HUW.out.1).2.1 (Kd.C_below HC3.out (by repeat (first | assumption | apply Below.drew | apply pw_below_drewN | (refine Below.alloc ?_ (by first | exact Nat.le_refl _ | (simp; done) | omega | (simp; omega)) _)))) (Kd.V_reads' HUW.out.2).2.1 HII.out.1 HII.out.2.1 HII.out.2.2).mono ?_; rintro e w6 ⟨rfl, hB6⟩; have hb6 : Below W9.heap.size W9 w6 := Below.trans (by repeat (first | assumption | apply Below.drew | apply pw_below_drewN | (refine Below.alloc ?_ (by first | exact Nat.le_refl _ | (simp; done) | omega | (simp; omega)) _))) (hB6.mono (by first | exact hb5.size | (have := hb5.size; simp; omega))); have hxw6 : Below w.heap.size w w6 := hxw.trans (hb6.mono hxw.size); clear hB6))
    all_goals
      go_wp2_with fail
      go_ret
      exact ⟨rfl, by repeat (first | assumption | apply Below.drew | apply pw_below_drewN)⟩

theorem ix34_2 (W : World) : (Instr.index 34 (.agg #[.int .i64 10, .int .i64 16, .int .i64 16, .int .i64 2, .int .i64 2, .int .i64 8, .int .i64 8, .int .i64 8]) (.int .i64 2)).run Tryz.prog W = .ok (.int .i64 16) W := by kernel_rfl
theorem ix35_2 (W : World) : (Instr.index 35 (.agg #[.string ⟨#[]⟩, .string ⟨#[48, 120]⟩, .string ⟨#[48, 88]⟩, .string ⟨#[48, 98]⟩, .string ⟨#[48, 66]⟩, .string ⟨#[48, 111]⟩, .string ⟨#[48, 79]⟩, .string ⟨#[48]⟩]) (.int .i64 2)).run Tryz.prog W = .ok (.string ⟨#[48, 88]⟩) W := by kernel_rfl
attribute [local go_sem] ix34_2 ix35_2
set_option maxHeartbeats 8000000 in
set_option maxRecDepth 100000 in
theorem int_2 (V : Nat) (hV : V < 18446744073709551616 ^ 10) (te : TypeId) (pe ev : Value) (kind : Int) (a1 : Bool) (a2 : ByteArray) (a3 : Bool) (A4 : Option Addr) (n4 c4 : Nat) (A5 : Option Addr) (n5 c5 : Nat) (a6 : Bool) (A7 : Option Addr) (n7 c7 : Nat) (A8 : Option Addr) (n8 c8 : Nat) (form : Int) (great split : Bool) (w : World)
    (hf0 : 0 ≤ form) (hf1 : form ≤ 255) (hf : form % 8 = 2) (hE : Errs w te pe ev) (hIT : IntText (bstr ([48, 88] ++ us split (txt great 16 V))) V te pe)
    (hF : ∀ W, Below w.heap.size w W → Calls Tryz.prog 6 #[.agg #[.int .i64 kind, .bool a1, .string a2, .bool a3, .slice A4 n4 c4, .slice A5 n5 c5, .bool a6, .slice A7 n7 c7, .slice A8 n8 c8]] W fun e w' => e = .returned (.bool true) ∧ Below W.heap.size W w')
    (hW : ∀ W, Below w.heap.size w W → Calls Tryz.prog 7 #[.agg #[.int .i64 kind, .bool a1, .string a2, .bool a3, .slice A4 n4 c4, .slice A5 n5 c5, .bool a6, .slice A7 n7 c7, .slice A8 n8 c8], .int .i64 10] W fun e w' => ∃ u v, e = .returned (.tuple #[.agg #[.bool false, u, v], .bool true]) ∧ Rt (some (lits 65536 V)) W.heap.size w' u v ∧ Below W.heap.size W w') :
    Calls Tryz.prog 3 #[.agg #[.int .i64 kind, .bool a1, .string a2, .bool a3, .slice A4 n4 c4, .slice A5 n5 c5, .bool a6, .slice A7 n7 c7, .slice A8 n8 c8], .int .u8 form, .bool great, .bool split] w fun e w' => e = .returned (.bool true) ∧ Below w.heap.size w w' := by
  have HB0 := Aside0.mk (show Below w.heap.size w (w.alloc (Obj.cells #[.int .i64 kind, .bool a1, .string a2, .bool a3, .slice A4 n4 c4, .slice A5 n5 c5, .bool a6, .slice A7 n7 c7, .slice A8 n8 c8] 26)) from (Below.refl w.heap.size w).alloc (Nat.le_refl _) _)
  obtain ⟨hd1, hd2⟩ := digits_len V hV
  obtain ⟨ht1, ht2⟩ := txt_len great 16 V (by decide) hV
  have hul := us_len split (txt great 16 V)
  have hIB := inBase_f great 16 V (by decide) (by decide) (by omega) (by have := lits_len_le 16 V (by decide) hV; omega) 2000 (by have := lits_len_le 16 V (by decide) hV; omega)
  have hUS := us_f split (txt great 16 V) (by omega)
  have hcat : (⟨#[48, 88]⟩ : ByteArray) ++ bstr (us split (txt great 16 V)) = bstr ([48, 88] ++ us split (txt great 16 V)) := bstr_append [48, 88] _
  have hsz : (⟨#[48, 88]⟩ : ByteArray).size + (bstr (us split (txt great 16 V))).size ≤ 9223372036854775807 := by
    rw [bstr_size]
    show 2 + _ ≤ _
    omega
  have hLI := fun W (hB : Below w.heap.size w W) => literal_int (bstr ([48, 88] ++ us split (txt great 16 V))) V te pe ev W hIT (hE.below hB) (by omega)
  rw [← hcat] at hLI
  obtain ⟨S, hS⟩ : ∃ S, bstr (us split (txt great 16 V)) = S := ⟨_, rfl⟩
  obtain ⟨T, hT⟩ : ∃ T, bstr (txt great 16 V) = T := ⟨_, rfl⟩
  rw [hS] at hLI hUS hsz
  rw [hT] at hIB hUS
  have hsz2 : ((⟨#[48, 88]⟩ : ByteArray).size + S.size : Int) ≤ 9223372036854775807 := by omega
  have hsz3 : 2 + S.size ≤ 9223372036854775807 := hsz
  have hsz5 : ¬ 9223372036854775807 < 2 + S.size := by omega
  have hsz4 : (2 : Int) + (S.size : Int) ≤ 9223372036854775807 := by omega
  have HF := Aside0.mk hF
  have HW := Aside0.mk hW
  have HIB := Aside0.mk hIB
  have HUS := Aside0.mk hUS
  have HLI := Aside0.mk hLI
  have HII := Aside0.mk (isInt_big V hV)
  clear hF hW hIB hUS hLI hIT hE hV hd1 hd2 ht1 ht2 hul hcat hS hT
  go_enter Tryz.func3, Tryz.ntmps3
  go_wp2_with (first | (go_at_call 6; go_must (refine (HF.out _ HB0.out).mono ?_); rintro e w1 ⟨rfl, hb1⟩; have HB1 := Aside0.mk (HB0.out.trans (hb1.mono HB0.out.size)); have g0 : ∀ i, w1.cell? ⟨w.heap.size, i, none⟩ = (#[Value.int .i64 kind, .bool a1, .string a2, .bool a3, .slice A4 n4 c4, .slice A5 n5 c5, .bool a6, .slice A7 n7 c7, .slice A8 n8 c8])[i]? := (fun i => ((bcell hb1).1 w.heap.size i (by simp)).trans (World.cell?_alloc_at _ _ _ _ rfl)); have e0 := g0 0; have e1 := g0 1; have e2 := g0 2; have e3 := g0 3; have e4 := g0 4; have e5 := g0 5; have e6 := g0 6; have e7 := g0 7; have e8 := g0 8; clear hb1 g0) | (go_at_call 7; go_must (refine (HW.out _ HB1.out).mono ?_); rintro e w2 ⟨u, v, rfl, hU, hb2⟩; have HU := Aside0.mk hU; have HB2 := Aside0.mk (HB1.out.trans (hb2.mono HB1.out.size)); obtain ⟨Au, cu, rfl⟩ := Kd.V_slice hU.1; obtain ⟨Av, cv, rfl⟩ := Kd.V_slice hU.2; clear hU hb2 e0 e1 e2 e3 e4 e5 e6 e7 e8))
  obtain ⟨W0, hW0⟩ : ∃ W0, W0 = w2.alloc (Obj.cells #[.bool false, .slice Au (lits 65536 V).length cu, .slice Av 1 cv] 31) := ⟨_, rfl⟩
  have hgz : w2.heap.size < W0.heap.size := by rw [hW0]; simp
  have d0 : W0.cell? ⟨w2.heap.size, 0, none⟩ = some (.bool false) := by rw [hW0]; go_simp
  have d1 : W0.cell? ⟨w2.heap.size, 1, none⟩ = some (.slice Au (lits 65536 V).length cu) := by rw [hW0]; go_simp
  have d2 : W0.cell? ⟨w2.heap.size, 2, none⟩ = some (.slice Av 1 cv) := by rw [hW0]; go_simp
  have HBW := Aside0.mk (show Below w.heap.size w W0 by rw [hW0]; exact HB2.out.alloc HB2.out.size _)
  have HUW := Aside0.mk (show Kd.V (Kd.int .i64) 3 W0 w1.heap.size (fun k_ => w1.heap.size ≤ k_) (.slice Au (lits 65536 V).length cu) (lits 65536 V) ∧ Kd.V (Kd.int .i64) 3 W0 w1.heap.size (fun k_ => w1.heap.size ≤ k_) (.slice Av 1 cv) [1] by rw [hW0]; exact ⟨Kd.V_alloc HU.out.1 _, Kd.V_alloc HU.out.2 _⟩)
  rw [← hW0]
  clear hW0
  have hb0 := Below.refl W0.heap.size W0
  go_region_held3 (fun w' => w'.cell? ⟨w2.heap.size, 0, none⟩ = some (.bool false) ∧ w'.cell? ⟨w2.heap.size, 1, none⟩ = some (.slice Au (lits 65536 V).length cu) ∧ w'.cell? ⟨w2.heap.size, 2, none⟩ = some (.slice Av 1 cv) ∧ Below W0.heap.size W0 w')
    ((exact keepR (by repeat (first | assumption | apply Below.drew | apply pw_below_drewN | (refine Below.alloc ?_ (by first | exact Nat.le_refl _ | (simp; done) | omega | (simp; omega)) _))) hgz d0 d1 d2))
    (first | (go_at_call 9; refine (Pr.spec_InBase.calls 2000 (fun k_ => w1.heap.size ≤ k_) Au cu (lits 65536 V) 16 great T _ (anyBase (Kd.V_below HUW.out.1 (by repeat (first | assumption | apply Below.drew | apply pw_below_drewN | (refine Below.alloc ?_ (by first | exact Nat.le_refl _ | (simp; done) | omega | (simp; omega)) _))))) HIB.out).mono ?_; rintro e w3 ⟨rfl, hb3⟩; have hb4 : Below W0.heap.size W0 w3 := Below.trans (by repeat (first | assumption | apply Below.drew | apply pw_below_drewN | (refine Below.alloc ?_ (by first | exact Nat.le_refl _ | (simp; done) | omega | (simp; omega)) _))) (hb3.mono (by first | exact Nat.le_refl _ | (simp; done))); clear hb3) | (go_at_call 8; refine (Pr.laws_underscored.calls T split S _ HUS.out).mono ?_; rintro e w4 ⟨rfl, ⟨nd, rfl⟩⟩))
  all_goals
    have hX : Below W0.heap.size W0 (w3.drewN nd) := by repeat (first | assumption | apply Below.drew | apply pw_below_drewN)
    obtain ⟨q0, q1, q2, -⟩ := keepR hX hgz d0 d1 d2
    have hxw : Below w.heap.size w (w3.drewN nd) := HBW.out.trans (hX.mono HBW.out.size)
    generalize w3.drewN nd = W9 at *
    have hg9 : w2.heap.size < W9.heap.size := by have := hX.size; omega
    have HX := Aside0.mk hX
    have hbX := Below.refl W9.heap.size W9
    clear hb0 hX d0 d1 d2 hb4 hgz
    go_wp2_with fail
    go_region_held3 (fun w' => w'.cell? ⟨w2.heap.size, 0, none⟩ = some (.bool false) ∧ w'.cell? ⟨w2.heap.size, 1, none⟩ = some (.slice Au (lits 65536 V).length cu) ∧ w'.cell? ⟨w2.heap.size, 2, none⟩ = some (.slice Av 1 cv) ∧ Below W9.heap.size W9 w')
      ((exact keepR (by repeat (first | assumption | apply Below.drew | apply pw_below_drewN | (refine Below.alloc ?_ (by first | exact Nat.le_refl _ | (simp; done) | omega | (simp; omega)) _))) hg9 q0 q1 q2))
      (first | (go_at_call 11; refine (HLI.out _ (by repeat (first | assumption | apply Below.drew | apply pw_below_drewN | (refine Below.alloc ?_ (by first | exact Nat.le_refl _ | (simp; done) | omega | (simp; omega)) _)))).mono ?_; rintro e w5 ⟨v, rfl, hR5, hB5⟩; obtain ⟨Ax, cx, rfl, -⟩ := Kd.R_reads hR5; have HR5 := Aside0.mk hR5; have hb5 : Below W9.heap.size W9 w5 := Below.trans (by repeat (first | assumption | apply Below.drew | apply pw_below_drewN | (refine Below.alloc ?_ (by first | exact Nat.le_refl _ | (simp; done) | omega | (simp; omega)) _))) (hB5.mono (by first | exact Nat.le_refl _ | (simp; done))); have hxw5 : Below w.heap.size w w5 := hxw.trans (hb5.mono hxw.size); have HC2 := Aside0.mk (Kd.C_below (Kd.V_reads' HUW.out.1).2.2 (HX.out.trans (hb5.mono HX.out.size))); have HC3 := Aside0.mk (Kd.C_below (Kd.V_reads' HUW.out.2).2.2 (HX.out.trans (hb5.mono HX.out.size))); have hr5 := Below.refl w5.heap.size w5; clear hR5 hB5) | (go_at_call 10; refine (isInt_calls 2000 Ax cx (lits 18446744073709551616 V) (lits 65536 V) Au cu (lits 65536 V) Av cv _ (Kd.C_below (Kd.R_reads' HR5.out).2.2 (by repeat (first | assumption | apply Below.drew | apply pw_below_drewN | (refine Below.alloc ?_ (by first | exact Nat.le_refl _ | (simp; done) | omega | (simp; omega)) _)))) (Kd.R_reads' HR5.out).2.1 (Kd.C_below HC2.out (by repeat (first | assumption | apply Below.drew | apply pw_below_drewN | (refine Below.alloc ?_ (by first | exact Nat.le_refl _ | (simp; done) | omega | (simp; omega)) _)))) (Kd.V_reads' HUW.out.1).2.1 (Kd.C_below HC3.out (by repeat (first | assumption | apply Below.drew | apply pw_below_drewN | (refine Below.alloc ?_ (by first | exact Nat.le_refl _ | (simp; done) | omega | (simp; omega)) _)))) (Kd.V_reads' HUW.out.2).2.1 HII.out.1 HII.out.2.1 HII.out.2.2).mono ?_; rintro e w6 ⟨rfl, hB6⟩; have hb6 : Below W9.heap.size W9 w6 := Below.trans (by repeat (first | assumption | apply Below.drew | apply pw_below_drewN | (refine Below.alloc ?_ (by first | exact Nat.le_refl _ | (simp; done) | omega | (simp; omega)) _))) (hB6.mono (by first | exact hb5.size | (have := hb5.size; simp; omega))); have hxw6 : Below w.heap.size w w6 := hxw.trans (hb6.mono hxw.size); clear hB6))
    all_goals
      go_wp2_with fail
      go_ret
      exact ⟨rfl, by repeat (first | assumption | apply Below.drew | apply pw_below_drewN)⟩

theorem ix34_3 (W : World) : (Instr.index 34 (.agg #[.int .i64 10, .int .i64 16, .int .i64 16, .int .i64 2, .int .i64 2, .int .i64 8, .int .i64 8, .int .i64 8]) (.int .i64 3)).run Tryz.prog W = .ok (.int .i64 2) W := by kernel_rfl
theorem ix35_3 (W : World) : (Instr.index 35 (.agg #[.string ⟨#[]⟩, .string ⟨#[48, 120]⟩, .string ⟨#[48, 88]⟩, .string ⟨#[48, 98]⟩, .string ⟨#[48, 66]⟩, .string ⟨#[48, 111]⟩, .string ⟨#[48, 79]⟩, .string ⟨#[48]⟩]) (.int .i64 3)).run Tryz.prog W = .ok (.string ⟨#[48, 98]⟩) W := by kernel_rfl
attribute [local go_sem] ix34_3 ix35_3
set_option maxHeartbeats 8000000 in
set_option maxRecDepth 100000 in
theorem int_3 (V : Nat) (hV : V < 18446744073709551616 ^ 10) (te : TypeId) (pe ev : Value) (kind : Int) (a1 : Bool) (a2 : ByteArray) (a3 : Bool) (A4 : Option Addr) (n4 c4 : Nat) (A5 : Option Addr) (n5 c5 : Nat) (a6 : Bool) (A7 : Option Addr) (n7 c7 : Nat) (A8 : Option Addr) (n8 c8 : Nat) (form : Int) (great split : Bool) (w : World)
    (hf0 : 0 ≤ form) (hf1 : form ≤ 255) (hf : form % 8 = 3) (hE : Errs w te pe ev) (hIT : IntText (bstr ([48, 98] ++ us split (txt great 2 V))) V te pe)
    (hF : ∀ W, Below w.heap.size w W → Calls Tryz.prog 6 #[.agg #[.int .i64 kind, .bool a1, .string a2, .bool a3, .slice A4 n4 c4, .slice A5 n5 c5, .bool a6, .slice A7 n7 c7, .slice A8 n8 c8]] W fun e w' => e = .returned (.bool true) ∧ Below W.heap.size W w')
    (hW : ∀ W, Below w.heap.size w W → Calls Tryz.prog 7 #[.agg #[.int .i64 kind, .bool a1, .string a2, .bool a3, .slice A4 n4 c4, .slice A5 n5 c5, .bool a6, .slice A7 n7 c7, .slice A8 n8 c8], .int .i64 10] W fun e w' => ∃ u v, e = .returned (.tuple #[.agg #[.bool false, u, v], .bool true]) ∧ Rt (some (lits 65536 V)) W.heap.size w' u v ∧ Below W.heap.size W w') :
    Calls Tryz.prog 3 #[.agg #[.int .i64 kind, .bool a1, .string a2, .bool a3, .slice A4 n4 c4, .slice A5 n5 c5, .bool a6, .slice A7 n7 c7, .slice A8 n8 c8], .int .u8 form, .bool great, .bool split] w fun e w' => e = .returned (.bool true) ∧ Below w.heap.size w w' := by
  have HB0 := Aside0.mk (show Below w.heap.size w (w.alloc (Obj.cells #[.int .i64 kind, .bool a1, .string a2, .bool a3, .slice A4 n4 c4, .slice A5 n5 c5, .bool a6, .slice A7 n7 c7, .slice A8 n8 c8] 26)) from (Below.refl w.heap.size w).alloc (Nat.le_refl _) _)
  obtain ⟨hd1, hd2⟩ := digits_len V hV
  obtain ⟨ht1, ht2⟩ := txt_len great 2 V (by decide) hV
  have hul := us_len split (txt great 2 V)
  have hIB := inBase_f great 2 V (by decide) (by decide) (by omega) (by have := lits_len_le 2 V (by decide) hV; omega) 2000 (by have := lits_len_le 2 V (by decide) hV; omega)
  have hUS := us_f split (txt great 2 V) (by omega)
  have hcat : (⟨#[48, 98]⟩ : ByteArray) ++ bstr (us split (txt great 2 V)) = bstr ([48, 98] ++ us split (txt great 2 V)) := bstr_append [48, 98] _
  have hsz : (⟨#[48, 98]⟩ : ByteArray).size + (bstr (us split (txt great 2 V))).size ≤ 9223372036854775807 := by
    rw [bstr_size]
    show 2 + _ ≤ _
    omega
  have hLI := fun W (hB : Below w.heap.size w W) => literal_int (bstr ([48, 98] ++ us split (txt great 2 V))) V te pe ev W hIT (hE.below hB) (by omega)
  rw [← hcat] at hLI
  obtain ⟨S, hS⟩ : ∃ S, bstr (us split (txt great 2 V)) = S := ⟨_, rfl⟩
  obtain ⟨T, hT⟩ : ∃ T, bstr (txt great 2 V) = T := ⟨_, rfl⟩
  rw [hS] at hLI hUS hsz
  rw [hT] at hIB hUS
  have hsz2 : ((⟨#[48, 98]⟩ : ByteArray).size + S.size : Int) ≤ 9223372036854775807 := by omega
  have hsz3 : 2 + S.size ≤ 9223372036854775807 := hsz
  have hsz5 : ¬ 9223372036854775807 < 2 + S.size := by omega
  have hsz4 : (2 : Int) + (S.size : Int) ≤ 9223372036854775807 := by omega
  have HF := Aside0.mk hF
  have HW := Aside0.mk hW
  have HIB := Aside0.mk hIB
  have HUS := Aside0.mk hUS
  have HLI := Aside0.mk hLI
  have HII := Aside0.mk (isInt_big V hV)
  clear hF hW hIB hUS hLI hIT hE hV hd1 hd2 ht1 ht2 hul hcat hS hT
  go_enter Tryz.func3, Tryz.ntmps3
  go_wp2_with (first | (go_at_call 6; go_must (refine (HF.out _ HB0.out).mono ?_); rintro e w1 ⟨rfl, hb1⟩; have HB1 := Aside0.mk (HB0.out.trans (hb1.mono HB0.out.size)); have g0 : ∀ i, w1.cell? ⟨w.heap.size, i, none⟩ = (#[Value.int .i64 kind, .bool a1, .string a2, .bool a3, .slice A4 n4 c4, .slice A5 n5 c5, .bool a6, .slice A7 n7 c7, .slice A8 n8 c8])[i]? := (fun i => ((bcell hb1).1 w.heap.size i (by simp)).trans (World.cell?_alloc_at _ _ _ _ rfl)); have e0 := g0 0; have e1 := g0 1; have e2 := g0 2; have e3 := g0 3; have e4 := g0 4; have e5 := g0 5; have e6 := g0 6; have e7 := g0 7; have e8 := g0 8; clear hb1 g0) | (go_at_call 7; go_must (refine (HW.out _ HB1.out).mono ?_); rintro e w2 ⟨u, v, rfl, hU, hb2⟩; have HU := Aside0.mk hU; have HB2 := Aside0.mk (HB1.out.trans (hb2.mono HB1.out.size)); obtain ⟨Au, cu, rfl⟩ := Kd.V_slice hU.1; obtain ⟨Av, cv, rfl⟩ := Kd.V_slice hU.2; clear hU hb2 e0 e1 e2 e3 e4 e5 e6 e7 e8))
  obtain ⟨W0, hW0⟩ : ∃ W0, W0 = w2.alloc (Obj.cells #[.bool false, .slice Au (lits 65536 V).length cu, .slice Av 1 cv] 31) := ⟨_, rfl⟩
  have hgz : w2.heap.size < W0.heap.size := by rw [hW0]; simp
  have d0 : W0.cell? ⟨w2.heap.size, 0, none⟩ = some (.bool false) := by rw [hW0]; go_simp
  have d1 : W0.cell? ⟨w2.heap.size, 1, none⟩ = some (.slice Au (lits 65536 V).length cu) := by rw [hW0]; go_simp
  have d2 : W0.cell? ⟨w2.heap.size, 2, none⟩ = some (.slice Av 1 cv) := by rw [hW0]; go_simp
  have HBW := Aside0.mk (show Below w.heap.size w W0 by rw [hW0]; exact HB2.out.alloc HB2.out.size _)
  have HUW := Aside0.mk (show Kd.V (Kd.int .i64) 3 W0 w1.heap.size (fun k_ => w1.heap.size ≤ k_) (.slice Au (lits 65536 V).length cu) (lits 65536 V) ∧ Kd.V (Kd.int .i64) 3 W0 w1.heap.size (fun k_ => w1.heap.size ≤ k_) (.slice Av 1 cv) [1] by rw [hW0]; exact ⟨Kd.V_alloc HU.out.1 _, Kd.V_alloc HU.out.2 _⟩)
  rw [← hW0]
  clear hW0
  have hb0 := Below.refl W0.heap.size W0
  go_region_held3 (fun w' => w'.cell? ⟨w2.heap.size, 0, none⟩ = some (.bool false) ∧ w'.cell? ⟨w2.heap.size, 1, none⟩ = some (.slice Au (lits 65536 V).length cu) ∧ w'.cell? ⟨w2.heap.size, 2, none⟩ = some (.slice Av 1 cv) ∧ Below W0.heap.size W0 w')
    ((exact keepR (by repeat (first | assumption | apply Below.drew | apply pw_below_drewN | (refine Below.alloc ?_ (by first | exact Nat.le_refl _ | (simp; done) | omega | (simp; omega)) _))) hgz d0 d1 d2))
    (first | (go_at_call 9; refine (Pr.spec_InBase.calls 2000 (fun k_ => w1.heap.size ≤ k_) Au cu (lits 65536 V) 2 great T _ (anyBase (Kd.V_below HUW.out.1 (by repeat (first | assumption | apply Below.drew | apply pw_below_drewN | (refine Below.alloc ?_ (by first | exact Nat.le_refl _ | (simp; done) | omega | (simp; omega)) _))))) HIB.out).mono ?_; rintro e w3 ⟨rfl, hb3⟩; have hb4 : Below W0.heap.size W0 w3 := Below.trans (by repeat (first | assumption | apply Below.drew | apply pw_below_drewN | (refine Below.alloc ?_ (by first | exact Nat.le_refl _ | (simp; done) | omega | (simp; omega)) _))) (hb3.mono (by first | exact Nat.le_refl _ | (simp; done))); clear hb3) | (go_at_call 8; refine (Pr.laws_underscored.calls T split S _ HUS.out).mono ?_; rintro e w4 ⟨rfl, ⟨nd, rfl⟩⟩))
  all_goals
    have hX : Below W0.heap.size W0 (w3.drewN nd) := by repeat (first | assumption | apply Below.drew | apply pw_below_drewN)
    obtain ⟨q0, q1, q2, -⟩ := keepR hX hgz d0 d1 d2
    have hxw : Below w.heap.size w (w3.drewN nd) := HBW.out.trans (hX.mono HBW.out.size)
    generalize w3.drewN nd = W9 at *
    have hg9 : w2.heap.size < W9.heap.size := by have := hX.size; omega
    have HX := Aside0.mk hX
    have hbX := Below.refl W9.heap.size W9
    clear hb0 hX d0 d1 d2 hb4 hgz
    go_wp2_with fail
    go_region_held3 (fun w' => w'.cell? ⟨w2.heap.size, 0, none⟩ = some (.bool false) ∧ w'.cell? ⟨w2.heap.size, 1, none⟩ = some (.slice Au (lits 65536 V).length cu) ∧ w'.cell? ⟨w2.heap.size, 2, none⟩ = some (.slice Av 1 cv) ∧ Below W9.heap.size W9 w')
      ((exact keepR (by repeat (first | assumption | apply Below.drew | apply pw_below_drewN | (refine Below.alloc ?_ (by first | exact Nat.le_refl _ | (simp; done) | omega | (simp; omega)) _))) hg9 q0 q1 q2))
      (first | (go_at_call 11; refine (HLI.out _ (by repeat (first | assumption | apply Below.drew | apply pw_below_drewN | (refine Below.alloc ?_ (by first | exact Nat.le_refl _ | (simp; done) | omega | (simp; omega)) _)))).mono ?_; rintro e w5 ⟨v, rfl, hR5, hB5⟩; obtain ⟨Ax, cx, rfl, -⟩ := Kd.R_reads hR5; have HR5 := Aside0.mk hR5; have hb5 : Below W9.heap.size W9 w5 := Below.trans (by repeat (first | assumption | apply Below.drew | apply pw_below_drewN | (refine Below.alloc ?_ (by first | exact Nat.le_refl _ | (simp; done) | omega | (simp; omega)) _))) (hB5.mono (by first | exact Nat.le_refl _ | (simp; done))); have hxw5 : Below w.heap.size w w5 := hxw.trans (hb5.mono hxw.size); have HC2 := Aside0.mk (Kd.C_below (Kd.V_reads' HUW.out.1).2.2 (HX.out.trans (hb5.mono HX.out.size))); have HC3 := Aside0.mk (Kd.C_below (Kd.V_reads' HUW.out.2).2.2 (HX.out.trans (hb5.mono HX.out.size))); have hr5 := Below.refl w5.heap.size w5; clear hR5 hB5) | (go_at_call 10; refine (isInt_calls 2000 Ax cx (lits 18446744073709551616 V) (lits 65536 V) Au cu (lits 65536 V) Av cv _ (Kd.C_below (Kd.R_reads' HR5.out).2.2 (by repeat (first | assumption | apply Below.drew | apply pw_below_drewN | (refine Below.alloc ?_ (by first | exact Nat.le_refl _ | (simp; done) | omega | (simp; omega)) _)))) (Kd.R_reads' HR5.out).2.1 (Kd.C_below HC2.out (by repeat (first | assumption | apply Below.drew | apply pw_below_drewN | (refine Below.alloc ?_ (by first | exact Nat.le_refl _ | (simp; done) | omega | (simp; omega)) _)))) (Kd.V_reads' HUW.out.1).2.1 (Kd.C_below HC3.out (by repeat (first | assumption | apply Below.drew | apply pw_below_drewN | (refine Below.alloc ?_ (by first | exact Nat.le_refl _ | (simp; done) | omega | (simp; omega)) _)))) (Kd.V_reads' HUW.out.2).2.1 HII.out.1 HII.out.2.1 HII.out.2.2).mono ?_; rintro e w6 ⟨rfl, hB6⟩; have hb6 : Below W9.heap.size W9 w6 := Below.trans (by repeat (first | assumption | apply Below.drew | apply pw_below_drewN | (refine Below.alloc ?_ (by first | exact Nat.le_refl _ | (simp; done) | omega | (simp; omega)) _))) (hB6.mono (by first | exact hb5.size | (have := hb5.size; simp; omega))); have hxw6 : Below w.heap.size w w6 := hxw.trans (hb6.mono hxw.size); clear hB6))
    all_goals
      go_wp2_with fail
      go_ret
      exact ⟨rfl, by repeat (first | assumption | apply Below.drew | apply pw_below_drewN)⟩

end Go.Proofs.YtgpoplfgngiilaaGreatDoor
