/- internal/strconv.ParseInt and strconv.ParseInt behind ParseUint. -/
import Derived.Test.YtgpoplfgngiilaaGreatDoorQD
import Derived.Test.YtgpoplfgngiilaaGreatDoorQH
import Derived.Test.YtgpoplfgngiilaaGreatDoorQN
import Derived.Test.YtgpoplfgngiilaaGreatDoorQA
import Derived.Test.YtgpoplfgngiilaaGreatDoorQM
set_option linter.unusedVariables false
set_option linter.unusedSimpArgs false
namespace Go.Proofs.YtgpoplfgngiilaaGreatDoor
open Go.RowKit Go.Proofs.YtgpoplfgngiilaaGreatDoorW.PrintWords

/-- What internal/strconv.ParseInt hands back of figures with this value. -/
def PI (V : Nat) (w : World) (e : Ending) (w' : World) : Prop :=
  ((V < 9223372036854775808 → e = .returned (.tuple #[.int .i64 V, .nilIface])) ∧ (9223372036854775808 ≤ V → e = .returned (.tuple #[.int .i64 9223372036854775807, .iface 176 (.int .i64 1)]))) ∧ Below w.heap.size w w'
/-- What strconv.ParseInt hands back of figures with this value. -/
def PS (V : Nat) (w : World) (e : Ending) (w' : World) : Prop :=
  ((V < 9223372036854775808 → e = .returned (.tuple #[.int .i64 V, .nilIface])) ∧ (9223372036854775808 ≤ V → ∃ g : Nat, e = .returned (.tuple #[.int .i64 9223372036854775807, .iface 179 (.pointer (some ⟨g, 0, none⟩))]))) ∧ Below w.heap.size w w'

set_option maxHeartbeats 4000000 in
set_option maxRecDepth 1000000 in
theorem parseInt64 (s : ByteArray) (V : Nat) (w : World) (hs : 1 ≤ s.size) (h43 : (s[0]'(by omega)).toNat ≠ 43) (h45 : (s[0]'(by omega)).toNat ≠ 45)
    (hC : Calls Tryz.prog 98 #[.string s, .int .i64 0, .int .i64 64] w (PU V w)) :
    Calls Tryz.prog 64 #[.string s, .int .i64 0, .int .i64 64] w (PI V w) := by
  have hemp : s.toList.isEmpty = false := by
    rw [← decide_eq_emptyBytes]
    exact decide_eq_false (fun h => by rw [h] at hs; revert hs; decide)
  obtain ⟨q, H0⟩ : ∃ q : Int, ((s[0]'(by omega)).toNat : Int) = q := ⟨_, rfl⟩
  have g1 : (q == 43) = false := beq_false_of_ne (by omega)
  have g2 : (q == 45) = false := beq_false_of_ne (by omega)
  have hC' := hidm hC
  clear hC h43 h45
  have hq1 : ∀ W, (binOp .neq 85 (.iface 176 (.int .i64 1)) (.iface 176 (.int .i64 1))).run Tryz.prog W = .ok (.bool false) W := fun W => by kernel_rfl
  have hmv : IntKind.u64.wrap 9223372036854775808 = 9223372036854775808 := by rw [IntKind.wrap_u64]; decide
  have hmw : IntKind.u64.wrap (9223372036854775808 - 1) = 9223372036854775807 := by rw [IntKind.wrap_u64]; decide
  by_cases hV : V < 9223372036854775808
  · obtain ⟨a, ha⟩ : ∃ a : Int, a = (V : Int) := ⟨_, rfl⟩
    have a0 : 0 ≤ a := by omega
    have a1 : a < 9223372036854775808 := by omega
    have HV := hidm (And.intro ha hV)
    clear ha hV
    go_enter Tryz.func64, Tryz.ntmps64
    go_wp2_with (go_at_call 98; (refine hC'.out.mono ?_); rintro e w1 ⟨⟨he1, he2⟩, hB⟩; obtain rfl := he1 (by have := HV.out.2; omega); rw [← HV.out.1]; clear he1 he2)
    go_ret2
    exact ⟨⟨fun _ => by rw [HV.out.1]; rfl, fun h => absurd h (by have := HV.out.2; omega)⟩, hB⟩
  · by_cases hV2 : V < 18446744073709551616
    · obtain ⟨a, ha⟩ : ∃ a : Int, a = (V : Int) := ⟨_, rfl⟩
      have a0 : 9223372036854775808 ≤ a := by omega
      have a1 : a < 18446744073709551616 := by omega
      have HV := hidm (And.intro ha (And.intro hV hV2))
      clear ha hV hV2
      go_enter Tryz.func64, Tryz.ntmps64
      go_wp2_with (go_at_call 98; (refine hC'.out.mono ?_); rintro e w1 ⟨⟨he1, he2⟩, hB⟩; obtain rfl := he1 (by have := HV.out.2.2; omega); rw [← HV.out.1]; clear he1 he2)
      go_ret2
      exact ⟨⟨fun h => absurd h HV.out.2.1, fun _ => rfl⟩, hB⟩
    · have HV := hidm hV2
      clear hV hV2
      go_enter Tryz.func64, Tryz.ntmps64
      go_wp2_with (go_at_call 98; (refine hC'.out.mono ?_); rintro e w1 ⟨⟨he1, he2⟩, hB⟩; obtain rfl := he2 (by have := HV.out; omega); clear he1 he2)
      go_ret2
      exact ⟨⟨fun h => absurd h (by have := HV.out; omega), fun _ => rfl⟩, hB⟩

set_option maxHeartbeats 4000000 in
set_option maxRecDepth 1000000 in
theorem parseInt (s : ByteArray) (V : Nat) (w : World) (ev : Value) (hs : s.size ≤ 1000) (h2 : 2 < w.heap.size) (hv : w.cell? ⟨2, 0, none⟩ = some ev) (hev : ev = .nilIface ∨ ∃ te pe, ev = .iface te pe)
    (hC : Calls Tryz.prog 64 #[.string s, .int .i64 0, .int .i64 64] w (PI V w)) :
    Calls Tryz.prog 43 #[.string s, .int .i64 0, .int .i64 64] w (PS V w) := by
  have hC' := hidm hC
  clear hC
  by_cases hV : V < 9223372036854775808
  · have HV := hidm hV
    clear hV
    go_enter Tryz.func43, Tryz.ntmps43
    go_wp2_with (go_at_call 64; (refine hC'.out.mono ?_); rintro e w1 ⟨⟨he1, he2⟩, hB⟩; obtain rfl := he1 HV.out; clear he1 he2)
    go_ret2
    exact ⟨⟨fun _ => rfl, fun h => absurd h (by have := HV.out; omega)⟩, hB⟩
  · have HV := hidm hV
    have hx := hidm (And.intro hv (And.intro hev h2))
    clear hV hv hev h2
    go_enter Tryz.func43, Tryz.ntmps43
    go_wp2_with (first | (go_at_call 64; (refine hC'.out.mono ?_); rintro e w1 ⟨⟨he1, he2⟩, hB⟩; have he3 := he2 (by have := HV.out; omega); subst he3; clear he1 he2) | (go_at_call 65; (refine (Tryz.strconv_toError_range _ _ _ _ ev _ (by omega) ((hB.cell (p := ⟨2, 0, none⟩) hx.out.2.2).trans hx.out.1) hx.out.2.1).mono ?_); rintro e w2 ⟨g, rfl, hg, _, hB2⟩))
    go_ret2
    exact ⟨⟨fun h => absurd h HV.out, fun _ => ⟨g, rfl⟩⟩, hB.trans (hB2.mono hB.size)⟩
end Go.Proofs.YtgpoplfgngiilaaGreatDoor
/- MakeFromLiteral of an integer's text; told of a great integer. -/
namespace Go.Proofs.YtgpoplfgngiilaaGreatDoor
open Go.RowKit Go.Proofs.YtgpoplfgngiilaaGreatDoorW.PrintWords Go.Proofs.YtgpoplfgngiilaaGreatDoorW.PrintLast Go.Proofs.YtgpoplfgngiilaaGreatDoorW.PrintMore

theorem ta_b_108 (v : Value) (w : World) : (Instr.typeAssert (.iface 94 v) 67 108 true).run Tryz.prog w = .ok (.tuple #[.bool false, .bool false]) w := by kernel_rfl
theorem ta_b_109 (v : Value) (w : World) : (Instr.typeAssert (.iface 94 v) 67 109 true).run Tryz.prog w = .ok (.tuple #[.pointer none, .bool false]) w := by kernel_rfl
theorem ta_b_88 (v : Value) (w : World) : (Instr.typeAssert (.iface 94 v) 67 88 true).run Tryz.prog w = .ok (.tuple #[.int .i64 0, .bool false]) w := by kernel_rfl
theorem ta_b_94 (v : Value) (w : World) : (Instr.typeAssert (.iface 94 v) 67 94 true).run Tryz.prog w = .ok (.tuple #[v, .bool true]) w := by kernel_rfl
theorem ta_p_2 (v : Value) (w : World) : (Instr.typeAssert (.iface 89 v) 20 2 true).run Tryz.prog w = .ok (.tuple #[.int .i64 0, .bool false]) w := by kernel_rfl
theorem ta_p_89 (v : Value) (w : World) : (Instr.typeAssert (.iface 89 v) 20 89 true).run Tryz.prog w = .ok (.tuple #[v, .bool true]) w := by kernel_rfl
attribute [local go_sem] ta_b_108 ta_b_109 ta_b_88 ta_b_94 ta_p_2 ta_p_89 me_kind_88 me_kind_94

theorem NV_C {base : Nat} {w : World} {v : Value} {xs : List Int} (h : NV base w v xs) : ∃ A c, v = .slice A xs.length c ∧ xs.length ≤ c ∧ Kd.C (Kd.int .u64) w A xs.length xs := by
  rcases h with ⟨rfl, rfl⟩ | ⟨g, ys, h1, rfl, h3, h4, h5, h6⟩
  · exact ⟨none, 0, rfl, Nat.le_refl _, C_nil none⟩
  · have hle : xs.length ≤ ys.length := by have := congrArg List.length h4; rw [List.length_take] at this; omega
    refine ⟨some ⟨g, 0, none⟩, ys.length, rfl, hle, Kd.C_of_reads (d := 0) ⟨rfl, by omega, fun _ => ⟨⟨g, 0, none⟩, rfl, fun j hj => ?_⟩⟩⟩
    obtain ⟨hz, he⟩ := take_get h4 j hj
    rw [Addr.add_lit, Nat.zero_add, h3.cell j hz, he]
    simp [List.getD, List.getElem?_eq_getElem hj]

theorem hidB {w W w1 : World} (_ : Below W.heap.size W w1) (h : Below w.heap.size w W) : Below w.heap.size w W := h

set_option maxHeartbeats 2000000 in
set_option maxRecDepth 1000000 in
theorem val_big (z : Nat) (w : World) :
    Calls Tryz.prog 57 #[.iface 94 (.agg #[.pointer (some ⟨z, 0, none⟩)])] w fun e w' => e = .returned (.iface 89 (.pointer (some ⟨z, 0, none⟩))) ∧ Below w.heap.size w w' := by
  go_enter Tryz.func57, Tryz.ntmps57
  go_wp2
  go_ret
  exact ⟨rfl, by first | exact ((Below.refl _ _).alloc (Nat.le_refl _) _) | exact ((Below.refl _ _).alloc (Nat.le_refl _) _).setCell (Nat.le_refl _) _⟩

set_option maxHeartbeats 2000000 in
set_option maxRecDepth 1000000 in
theorem parts_big (z : Nat) (A : Option Addr) (c : Nat) (ws : List Int) (w : World) (hl : ws.length < 17592186044416)
    (hc0 : w.cell? ⟨z, 0, none⟩ = some (.bool false)) (hc1 : w.cell? ⟨z, 1, none⟩ = some (.slice A ws.length c)) (hr : Kd.C (Kd.int .u64) w A ws.length ws) :
    Calls Tryz.prog 40 #[.iface 94 (.agg #[.pointer (some ⟨z, 0, none⟩)])] w fun e w' => ∃ v u, e = .returned (.tuple #[.agg #[.bool false, v], u]) ∧ Kd.R (Kd.int .u64) 50 w' w.heap.size (fun _ => True) v ws ∧ Below w.heap.size w w' := by
  have HR := Aside0.mk hr
  have HC := Aside0.mk (And.intro hc0 (And.intro hc1 hl))
  have HA := Aside0.mk ((Below.refl w.heap.size w).alloc (Nat.le_refl _) (Obj.cells #[Value.bool false, Value.slice none 0 0] 24))
  clear hr hc0 hc1 hl
  go_enter Tryz.func40, Tryz.ntmps40
  go_wp2_with (first | (go_at_call 57; go_must (refine (val_big z _).mono ?_); rintro e w0 ⟨rfl, hb0⟩; have HB0 := Aside0.mk (HA.out.trans (hb0.mono (by simp))); obtain ⟨q1, q2⟩ := bcell hb0; have a0 : w0.cell? ⟨w.heap.size, 0, none⟩ = some (.bool false) := (q1 w.heap.size 0 (by simp)).trans (by go_simp); have a1 : w0.cell? ⟨w.heap.size, 1, none⟩ = some (.slice none 0 0) := (q1 w.heap.size 1 (by simp)).trans (by go_simp); have a2 := q2 w.heap.size 0 (by simp); have a3 := q2 w.heap.size 1 (by simp); have ha : w.heap.size < w0.heap.size := (by have := hb0.size; simp only [World.size_alloc] at this; omega); clear q1 q2 hb0) | (go_at_call 58; go_must (refine (number_calls z A c ws _ HC.out.2.2 ((HB0.out.cell (World.block_lt_of_cell? w _ HC.out.1)).trans HC.out.1) ((HB0.out.cell (World.block_lt_of_cell? w _ HC.out.2.1)).trans HC.out.2.1) (Kd.C_below HR.out HB0.out)).mono ?_); rintro e w1 ⟨v, rfl, hR, hB⟩; have hR' := Aside0.mk hR; have hB' := Aside0.mk hB; have hs := hB.size; obtain ⟨q1, q2⟩ := bcell hB; have e0 := (q1 w.heap.size 0 ha).trans a0; have e1 := (q1 w.heap.size 1 ha).trans a1; have f0 := (q2 w.heap.size 0 ha).trans a2; have f1 := (q2 w.heap.size 1 ha).trans a3; have hz : w.heap.size < w1.heap.size := (by omega); clear q1 q2 hR hB a0 a1 a2 a3; obtain ⟨Av, cv, rfl, -⟩ := Kd.R_reads hR'.out) | go_in)
  refine bodyPost_ret (v := .tuple #[.agg #[.bool false, .slice Av ws.length cv], .slice (some ⟨w1.heap.size, 0, none⟩) 1 1]) (by simp [results, Tryz.results40, go_sem, e0, e1, hz]) rfl ⟨_, _, rfl, ?_, ?_⟩
  · exact R_after (N := w.heap.size + 1) hR'.out (by omega) (by omega) (fun k h1 h2 => hk_alloc _ (by simp; omega) (hk_set (by simp; omega) (hk_set (by simp; omega) rfl)))
  · exact (((HB0.out.trans (hB'.out.mono (by omega))).setCell (Nat.le_refl _) _).setCell (Nat.le_refl _) _).alloc (by simp; omega) _

set_option maxHeartbeats 2000000 in
set_option maxRecDepth 1000000 in
theorem told_big (z : Nat) (A : Option Addr) (c : Nat) (ws : List Int) (w : World) (hl : ws.length < 17592186044416)
    (hc0 : w.cell? ⟨z, 0, none⟩ = some (.bool false)) (hc1 : w.cell? ⟨z, 1, none⟩ = some (.slice A ws.length c)) (hr : Kd.C (Kd.int .u64) w A ws.length ws) :
    Calls Tryz.prog 26 #[.iface 94 (.agg #[.pointer (some ⟨z, 0, none⟩)])] w fun e w' => ∃ v, e = .returned (.agg #[.int .i64 3, .bool false, .string ⟨#[]⟩, .bool false, v, .slice none 0 0, .bool false, .slice none 0 0, .slice none 0 0]) ∧ Kd.R (Kd.int .u64) 50 w' w.heap.size (fun _ => True) v ws ∧ Below w.heap.size w w' := by
  have HP := Aside0.mk (fun W (hB : Below w.heap.size w W) => parts_big z A c ws W hl ((hB.cell (World.block_lt_of_cell? w _ hc0)).trans hc0) ((hB.cell (World.block_lt_of_cell? w _ hc1)).trans hc1) (Kd.C_below hr hB))
  clear hr hc0 hc1 hl
  go_enter Tryz.func26, Tryz.ntmps26
  go_wp2_with (first | (go_at_call 40; (refine Calls.mono ((fun W (hW : Below w.heap.size w W) => (⟨hW, HP.out W hW⟩ : _ ∧ _)) _ (by repeat (first | exact Below.refl _ _ | refine Below.setCell ?_ (by first | (simp; done) | (simp; omega)) _ | refine Below.alloc ?_ (by first | (simp; done) | (simp; omega)) _))).2 ?_); rintro e w1 ⟨v, u, rfl, hR, hB⟩; have HB0 := Aside0.mk (hidB (w := w) hB (by repeat (first | exact Below.refl _ _ | refine Below.setCell ?_ (by first | (simp; done) | (simp; omega)) _ | refine Below.alloc ?_ (by first | (simp; done) | (simp; omega)) _))); have hR' := Aside0.mk hR; have hB' := Aside0.mk hB; have hs := hB.size; simp only [World.size_alloc] at hs; obtain ⟨q1, q2⟩ := bcell hB; simp only [World.size_alloc] at q1 q2; have hz : w.heap.size < w1.heap.size := (by omega); have hz1 : w.heap.size + 1 < w1.heap.size := (by omega); clear hR hB; obtain ⟨Av, cv, rfl, -⟩ := Kd.R_reads hR'.out) | go_in)
  have e0 : w1.cell? ⟨w.heap.size, 0, none⟩ = some (.int .i64 0) := (q1 w.heap.size 0 (by omega)).trans (by go_simp)
  have e1 : w1.cell? ⟨w.heap.size, 1, none⟩ = some (.bool false) := (q1 w.heap.size 1 (by omega)).trans (by go_simp)
  have e2 : w1.cell? ⟨w.heap.size, 2, none⟩ = some (.string ⟨#[]⟩) := (q1 w.heap.size 2 (by omega)).trans (by go_simp)
  have e3 : w1.cell? ⟨w.heap.size, 3, none⟩ = some (.bool false) := (q1 w.heap.size 3 (by omega)).trans (by go_simp)
  have e4 : w1.cell? ⟨w.heap.size, 4, none⟩ = some (.slice none 0 0) := (q1 w.heap.size 4 (by omega)).trans (by go_simp)
  have e5 : w1.cell? ⟨w.heap.size, 5, none⟩ = some (.slice none 0 0) := (q1 w.heap.size 5 (by omega)).trans (by go_simp)
  have e6 : w1.cell? ⟨w.heap.size, 6, none⟩ = some (.bool false) := (q1 w.heap.size 6 (by omega)).trans (by go_simp)
  have e7 : w1.cell? ⟨w.heap.size, 7, none⟩ = some (.slice none 0 0) := (q1 w.heap.size 7 (by omega)).trans (by go_simp)
  have e8 : w1.cell? ⟨w.heap.size, 8, none⟩ = some (.slice none 0 0) := (q1 w.heap.size 8 (by omega)).trans (by go_simp)
  refine bodyPost_ret (v := .agg #[.int .i64 3, .bool false, .string ⟨#[]⟩, .bool false, .slice Av ws.length cv, .slice none 0 0, .bool false, .slice none 0 0, .slice none 0 0]) (by simp [results, Tryz.results26, go_sem, e0, e1, e2, e3, e4, e5, e6, e7, e8]) rfl ⟨_, rfl, ?_, ?_⟩
  · refine R_after (N := w.heap.size + 3) hR'.out (by simp; try omega) (by simp; try omega) ?_
    intro k h1 h2
    repeat (refine hk_set (by simp; omega) ?_)
    rfl
  · have hb0 : Below w.heap.size w w1 := HB0.out.trans (hB'.out.mono HB0.out.size)
    repeat (refine Below.setCell ?_ (by first | (simp; done) | (simp; omega)) _)
    exact hb0

/-- What reads the text of an integer: ParseInt, and nat.scan where the number is great. -/
def IntText (s : ByteArray) (V : Nat) (te : TypeId) (pe : Value) : Prop :=
  1 ≤ s.size ∧ s.size ≤ 1000 ∧ (∀ h : 0 < s.size, (s[0]'h).toNat ≠ 43 ∧ (s[0]'h).toNat ≠ 45) ∧ (∀ w, Calls Tryz.prog 98 #[.string s, .int .i64 0, .int .i64 64] w (PU V w)) ∧ (9223372036854775808 ≤ V → ScansTo s V te pe)

/-- The globals that it reads: io.EOF, strconv.ErrRange. -/
def Errs (w : World) (te : TypeId) (pe ev : Value) : Prop :=
  2 < w.heap.size ∧ w.cell? ⟨1, 0, none⟩ = some (.iface te pe) ∧ w.cell? ⟨2, 0, none⟩ = some ev ∧ (ev = .nilIface ∨ ∃ te pe, ev = .iface te pe) ∧ (∀ W, (binOp .neq 85 (.iface te pe) (.iface te pe)).run Tryz.prog W = .ok (.bool false) W)
theorem Errs.below {w w' : World} {te : TypeId} {pe ev : Value} (h : Errs w te pe ev) (hb : Below w.heap.size w w') : Errs w' te pe ev :=
  ⟨Nat.lt_of_lt_of_le h.1 hb.size, (hb.cell (World.block_lt_of_cell? w _ h.2.1)).trans h.2.1, (hb.cell (World.block_lt_of_cell? w _ h.2.2.1)).trans h.2.2.1, h.2.2.2⟩

set_option maxHeartbeats 2000000 in
set_option maxRecDepth 1000000 in
theorem mfl_small (s : ByteArray) (V : Nat) (te : TypeId) (pe ev : Value) (w : World) (hT : IntText s V te pe) (hE : Errs w te pe ev) (hV : V < 9223372036854775808) :
    Calls Tryz.prog 27 #[.string s, .int .i64 5, .int .u64 0] w fun e w' => e = .returned (.iface 88 (.int .i64 V)) ∧ Below w.heap.size w w' := by
  have HC := Aside0.mk (parseInt s V w ev hT.2.1 hE.1 hE.2.2.1 hE.2.2.2.1 (parseInt64 s V w hT.1 (hT.2.2.1 hT.1).1 (hT.2.2.1 hT.1).2 (hT.2.2.2.1 w)))
  have HV := Aside0.mk hV
  clear hT hE hV
  go_enter Tryz.func27, Tryz.ntmps27
  go_wp2_with (go_at_call 43; go_must (refine HC.out.mono ?_); rintro e w1 ⟨⟨he1, he2⟩, hb⟩; obtain rfl := he1 HV.out; have HB := Aside0.mk hb; clear he1 he2 hb)
  go_ret
  exact ⟨rfl, HB.out⟩

set_option maxHeartbeats 2000000 in
set_option maxRecDepth 1000000 in
theorem mfl_big (s : ByteArray) (V : Nat) (te : TypeId) (pe ev : Value) (w : World) (hT : IntText s V te pe) (hE : Errs w te pe ev) (hV : 9223372036854775808 ≤ V) :
    Calls Tryz.prog 27 #[.string s, .int .i64 5, .int .u64 0] w fun e w' => ∃ z v, e = .returned (.iface 94 (.agg #[.pointer (some ⟨z, 0, none⟩)])) ∧ Iz w' z v ∧ NV w.heap.size w' v (lits 18446744073709551616 V) ∧ Below w.heap.size w w' := by
  have HC := Aside0.mk (parseInt s V w ev hT.2.1 hE.1 hE.2.2.1 hE.2.2.2.1 (parseInt64 s V w hT.1 (hT.2.2.1 hT.1).1 (hT.2.2.1 hT.1).2 (hT.2.2.2.1 w)))
  have HV := Aside0.mk hV
  have HS := Aside0.mk (fun W (hB : Below w.heap.size w W) => setString s V te pe (hT.2.2.2.2 hV) hT.1 (Nat.le_trans hT.2.1 (by decide)) (hT.2.2.1 hT.1).1 (hT.2.2.1 hT.1).2 W.heap.size (W.alloc (.cells #[.bool false, .slice none 0 0] 116)) (by have := hE.1; have := hB.size; omega) (heap_alloc_new W _) (((hB.alloc hB.size _).cell (World.block_lt_of_cell? w _ hE.2.1)).trans hE.2.1) hE.2.2.2.2)
  clear hT hE hV
  go_enter Tryz.func27, Tryz.ntmps27
  go_wp2_with (first | (go_at_call 43; go_must (refine HC.out.mono ?_); rintro e w1 ⟨⟨he1, he2⟩, hb⟩; obtain ⟨g, rfl⟩ := he2 HV.out; have HB := Aside0.mk hb; clear he1 he2 hb) | (go_at_call 45; go_must (refine (HS.out _ HB.out).mono ?_); rintro e w2 ⟨v, rfl, hz, hn, hf⟩; have HZ := Aside0.mk hz; have HN := Aside0.mk hn; have HF := Aside0.mk hf; clear hz hn hf) | go_in)
  go_ret
  exact ⟨_, v, rfl, HZ.out, HN.out.lower (by have := HB.out.size; simp only [World.size_alloc]; omega), (HB.out.alloc HB.out.size _).trans (HF.out.toBelow (by have := HB.out.size; simp only [World.size_alloc]; omega) (fun k hk => by rw [hk]; exact HB.out.size))⟩
end Go.Proofs.YtgpoplfgngiilaaGreatDoor
/- Literal of an integer's text. -/
namespace Go.Proofs.YtgpoplfgngiilaaGreatDoor
open Go.RowKit Go.Proofs.YtgpoplfgngiilaaGreatDoorW.PrintWords Go.Proofs.YtgpoplfgngiilaaGreatDoorW.PrintLast Go.Proofs.YtgpoplfgngiilaaGreatDoorW.PrintMore

/-- What told hands back of an integer that is not below 0. -/
def ToldInt (V : Nat) (w : World) (e : Ending) (w' : World) : Prop :=
  ∃ v, e = .returned (.agg #[.int .i64 3, .bool false, .string ⟨#[]⟩, .bool false, v, .slice none 0 0, .bool false, .slice none 0 0, .slice none 0 0]) ∧ Kd.R (Kd.int .u64) 50 w' w.heap.size (fun _ => True) v (lits 18446744073709551616 V) ∧ Below w.heap.size w w'

theorem mfl (s : ByteArray) (V : Nat) (te : TypeId) (pe ev : Value) (w : World) (hT : IntText s V te pe) (hE : Errs w te pe ev) (hVl : (lits 18446744073709551616 V).length ≤ 1000) :
    Calls Tryz.prog 27 #[.string s, .int .i64 5, .int .u64 0] w fun e w' => ∃ u, e = .returned u ∧ (∀ W, Below w'.heap.size w' W → Calls Tryz.prog 26 #[u] W (ToldInt V W)) ∧ Below w.heap.size w w' := by
  by_cases hV : V < 9223372036854775808
  · refine (mfl_small s V te pe ev w hT hE hV).mono ?_
    rintro e w' ⟨rfl, hB⟩
    refine ⟨_, rfl, fun W _ => ?_, hB⟩
    have h := told_int64 (V : Int) W (by omega) (by omega)
    rw [words_of64 V hV] at h
    exact h
  · refine (mfl_big s V te pe ev w hT hE (by omega)).mono ?_
    rintro e w' ⟨z, v, rfl, hz, hn, hB⟩
    refine ⟨_, rfl, fun W hW => ?_, hB⟩
    obtain ⟨A, c, rfl, hc, hC⟩ := NV_C hn
    exact told_big z A c _ W (by omega) ((hW.cell (World.block_lt_of_cell? w' _ hz.c0)).trans hz.c0) ((hW.cell (World.block_lt_of_cell? w' _ hz.c1)).trans hz.c1) (Kd.C_below hC hW)

set_option maxHeartbeats 4000000 in
set_option maxRecDepth 1000000 in
theorem literal_int (s : ByteArray) (V : Nat) (te : TypeId) (pe ev : Value) (w : World) (hT : IntText s V te pe) (hE : Errs w te pe ev) (hVl : (lits 18446744073709551616 V).length ≤ 1000) :
    Calls Tryz.prog 11 #[.string s, .int .i64 0] w (ToldInt V w) := by
  have HM := Aside0.mk (fun W (hB : Below w.heap.size w W) => mfl s V te pe ev W hT (hE.below hB) hVl)
  clear hT hE hVl
  unfold ToldInt at *
  have HB0 := Aside0.mk (show Below w.heap.size w ((w.alloc (Obj.cells #[.int .i64 0, .bool false, .string ⟨#[]⟩, .bool false, .slice none 0 0, .slice none 0 0, .bool false, .slice none 0 0, .slice none 0 0] 26)).alloc (Obj.cells #[.int .i64 5, .int .i64 6, .int .i64 7, .int .i64 8, .int .i64 9] 63)) from ((Below.refl w.heap.size w).alloc (Nat.le_refl _) _).alloc (by simp) _)
  go_enter Tryz.func11, Tryz.ntmps11
  go_wp2_with (first | (go_at_call 27; go_must (refine (HM.out _ HB0.out).mono ?_); rintro e w1 ⟨u, rfl, hT1, hB⟩; have HB1 := Aside0.mk hB; have HT1 := Aside0.mk hT1; clear hB hT1) | (go_at_call 26; go_must (refine (HT1.out _ (Below.refl _ _)).mono ?_); rintro e w2 ⟨v, rfl, hR, hB⟩; have HR := Aside0.mk hR; have HBB := Aside0.mk (HB1.out.trans (hB.mono HB1.out.size)); have hz := HBB.out.size; simp only [World.size_alloc] at hz; have hz0 : w.heap.size < w2.heap.size := (by omega); have HB2 := Aside0.mk hB; clear hB hR; obtain ⟨Av, cv, rfl, -⟩ := Kd.R_reads HR.out; have e0 : w2.cell? ⟨w.heap.size, 0, none⟩ = some (.int .i64 0) := ((HBB.out.cell (p := ⟨w.heap.size, 0, none⟩) (by simp; omega)).trans (by go_simp)); have f0 : w2.frozen? ⟨w.heap.size, 0, none⟩ = false := ((HBB.out.frozen (p := ⟨w.heap.size, 0, none⟩) (by simp; omega)).trans (by go_simp)); have e1 : w2.cell? ⟨w.heap.size, 1, none⟩ = some (.bool false) := ((HBB.out.cell (p := ⟨w.heap.size, 1, none⟩) (by simp; omega)).trans (by go_simp)); have f1 : w2.frozen? ⟨w.heap.size, 1, none⟩ = false := ((HBB.out.frozen (p := ⟨w.heap.size, 1, none⟩) (by simp; omega)).trans (by go_simp)); have e2 : w2.cell? ⟨w.heap.size, 2, none⟩ = some (.string ⟨#[]⟩) := ((HBB.out.cell (p := ⟨w.heap.size, 2, none⟩) (by simp; omega)).trans (by go_simp)); have f2 : w2.frozen? ⟨w.heap.size, 2, none⟩ = false := ((HBB.out.frozen (p := ⟨w.heap.size, 2, none⟩) (by simp; omega)).trans (by go_simp)); have e3 : w2.cell? ⟨w.heap.size, 3, none⟩ = some (.bool false) := ((HBB.out.cell (p := ⟨w.heap.size, 3, none⟩) (by simp; omega)).trans (by go_simp)); have f3 : w2.frozen? ⟨w.heap.size, 3, none⟩ = false := ((HBB.out.frozen (p := ⟨w.heap.size, 3, none⟩) (by simp; omega)).trans (by go_simp)); have e4 : w2.cell? ⟨w.heap.size, 4, none⟩ = some (.slice none 0 0) := ((HBB.out.cell (p := ⟨w.heap.size, 4, none⟩) (by simp; omega)).trans (by go_simp)); have f4 : w2.frozen? ⟨w.heap.size, 4, none⟩ = false := ((HBB.out.frozen (p := ⟨w.heap.size, 4, none⟩) (by simp; omega)).trans (by go_simp)); have e5 : w2.cell? ⟨w.heap.size, 5, none⟩ = some (.slice none 0 0) := ((HBB.out.cell (p := ⟨w.heap.size, 5, none⟩) (by simp; omega)).trans (by go_simp)); have f5 : w2.frozen? ⟨w.heap.size, 5, none⟩ = false := ((HBB.out.frozen (p := ⟨w.heap.size, 5, none⟩) (by simp; omega)).trans (by go_simp)); have e6 : w2.cell? ⟨w.heap.size, 6, none⟩ = some (.bool false) := ((HBB.out.cell (p := ⟨w.heap.size, 6, none⟩) (by simp; omega)).trans (by go_simp)); have f6 : w2.frozen? ⟨w.heap.size, 6, none⟩ = false := ((HBB.out.frozen (p := ⟨w.heap.size, 6, none⟩) (by simp; omega)).trans (by go_simp)); have e7 : w2.cell? ⟨w.heap.size, 7, none⟩ = some (.slice none 0 0) := ((HBB.out.cell (p := ⟨w.heap.size, 7, none⟩) (by simp; omega)).trans (by go_simp)); have f7 : w2.frozen? ⟨w.heap.size, 7, none⟩ = false := ((HBB.out.frozen (p := ⟨w.heap.size, 7, none⟩) (by simp; omega)).trans (by go_simp)); have e8 : w2.cell? ⟨w.heap.size, 8, none⟩ = some (.slice none 0 0) := ((HBB.out.cell (p := ⟨w.heap.size, 8, none⟩) (by simp; omega)).trans (by go_simp)); have f8 : w2.frozen? ⟨w.heap.size, 8, none⟩ = false := ((HBB.out.frozen (p := ⟨w.heap.size, 8, none⟩) (by simp; omega)).trans (by go_simp))))
  refine bodyPost_ret (v := .agg #[.int .i64 3, .bool false, .string ⟨#[]⟩, .bool false, .slice Av (lits 18446744073709551616 V).length cv, .slice none 0 0, .bool false, .slice none 0 0, .slice none 0 0]) (by simp [results, Tryz.results11, go_sem, e0, e1, e2, e3, e4, e5, e6, e7, e8]) rfl ⟨_, rfl, ?_, ?_⟩
  · refine R_after (N := w.heap.size + 2) HR.out (by have := HB1.out.size; simpa using this) (by have := HB1.out.size; simp at this; omega) ?_
    intro k h1 h2
    repeat (refine hk_set (by simp; omega) ?_)
    rfl
  · have hb0 : Below w.heap.size w w2 := HB0.out.trans (HBB.out.mono (by simp; omega))
    repeat (refine Below.setCell ?_ (by simp) _)
    exact hb0
end Go.Proofs.YtgpoplfgngiilaaGreatDoor
