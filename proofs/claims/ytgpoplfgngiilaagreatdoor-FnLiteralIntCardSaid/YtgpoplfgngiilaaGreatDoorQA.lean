/- Contracts on the road from the package's value to plain data. -/
import Derived.Test.YtgpoplfgngiilaaGreatDoorP2
import Derived.WalkSpells
import Derived.WalkLawsBesides
import Derived.Outline
import Derived.Deep.RegionWith
import Derived.Deep.RegionHeld3
import Derived.Lib.Strings
import Derived.Deep.DeepCutAuto
set_option linter.unusedVariables false
set_option linter.unusedSimpArgs false
namespace Go.Proofs.YtgpoplfgngiilaaGreatDoor
open Go.RowKit Go.Proofs.YtgpoplfgngiilaaGreatDoorW.PrintWords Go.Proofs.YtgpoplfgngiilaaGreatDoorW.PrintLast Go.Proofs.YtgpoplfgngiilaaGreatDoorW.PrintMore

theorem ta_i_108 (v : Value) (w : World) : (Instr.typeAssert (.iface 88 v) 67 108 true).run Tryz.prog w = .ok (.tuple #[.bool false, .bool false]) w := by kernel_rfl
theorem ta_i_109 (v : Value) (w : World) : (Instr.typeAssert (.iface 88 v) 67 109 true).run Tryz.prog w = .ok (.tuple #[.pointer none, .bool false]) w := by kernel_rfl
theorem ta_i_88 (v : Value) (w : World) : (Instr.typeAssert (.iface 88 v) 67 88 true).run Tryz.prog w = .ok (.tuple #[v, .bool true]) w := by kernel_rfl
theorem ta_n_2 (v : Value) (w : World) : (Instr.typeAssert (.iface 2 v) 20 2 true).run Tryz.prog w = .ok (.tuple #[v, .bool true]) w := by kernel_rfl
theorem mk_nat_1 (w : World) : (Instr.makeSlice 114 (.int .i64 1) (.int .i64 1)).run Tryz.prog w = .ok (.slice (some ⟨w.heap.size, 0, none⟩) 1 1) (w.alloc (.cells #[.int .u64 0] 167)) := by kernel_rfl
attribute [local go_sem] ta_i_108 ta_i_109 ta_i_88 ta_n_2 mk_nat_1

set_option maxHeartbeats 400000 in
set_option maxRecDepth 100000 in
theorem makeInt64 (x : Int) (w : World) :
    Calls Tryz.prog 49 #[.int .i64 x] w fun e w' => e = .returned (.iface 88 (.int .i64 x)) ∧ w = w' := by
  go_enter Tryz.func49, Tryz.ntmps49
  go_wp2
  go_ret
  exact ⟨rfl, rfl⟩

set_option maxHeartbeats 400000 in
set_option maxRecDepth 100000 in
theorem val_int64 (x : Int) (w : World) :
    Calls Tryz.prog 57 #[.iface 88 (.int .i64 x)] w fun e w' => e = .returned (.iface 2 (.int .i64 x)) ∧ w = w' := by
  go_enter Tryz.func57, Tryz.ntmps57
  go_wp2
  go_ret
  exact ⟨rfl, rfl⟩


theorem take_rd (ws : List Int) (i : Nat) (h : i < ws.length) : ws.take (i + 1) = ws.take i ++ [rd ws (i : Int)] := by
  rw [List.take_succ_eq_append_getElem h]
  simp [rd, List.getD, h]

set_option maxHeartbeats 1000000 in
set_option maxRecDepth 100000 in
/-- impl.plain: the words of an Int, in a new row. -/
theorem plain_calls (g : Nat) (A : Option Addr) (c : Nat) (ws : List Int) (w : World) (hl : ws.length < 17592186044416)
    (hc1 : w.cell? ⟨g, 1, none⟩ = some (.slice A ws.length c)) (hr : Kd.C (Kd.int .u64) w A ws.length ws) :
    Calls Tryz.prog 61 #[.pointer (some ⟨g, 0, none⟩)] w fun e w' => ∃ v, e = .returned v ∧ Kd.R (Kd.int .u64) 50 w' w.heap.size (fun _ => True) v ws ∧ Below w.heap.size w w' := by
  have HR := Aside0.mk hr
  clear hr
  go_enter Tryz.func61, Tryz.ntmps61
  go_wp2
  go_loopg [3, 9] ws.length (fun kq v3 v9 w' => ∃ i : Nat, v9 = .int .i64 i ∧ Aside0 (i ≤ ws.length ∧ kq = ws.length - i) ∧ Aside0 (Kd.R (Kd.int .u64) 50 w' w.heap.size (fun _ => True) v3 (ws.take i)) ∧ Aside0 (Below w.heap.size w w'))
  case atStart => exact ⟨0, rfl, ⟨Nat.zero_le _, rfl⟩, ⟨Kd.R_nil _ _ _ _ _⟩, ⟨Below.refl _ _⟩⟩
  case round =>
    obtain ⟨i, rfl, HI, HO, HB⟩ := hrel
    by_cases hlt : i < ws.length
    · have hb : decide ((i : Int) < (ws.length : Int)) = true := by simp; exact hlt
      obtain ⟨ad, rfl, hcell⟩ := Kd.at_int HR.out (i : Int) (by omega) (by omega)
      have hcell' : wr.cell? (ad.add i) = some (.int .u64 (rd ws (i : Int))) := by
        rw [Int.toNat_natCast] at hcell
        rw [← hcell]; exact HB.out.cell (World.block_lt_of_cell? w _ hcell)
      clear hcell
      have HT := Aside0.mk (take_rd ws i hlt)
      go_wp2_with (first | ((with_reducible refine gate_builtin (b := .append) (xs := #[.tmp 13, .tmp 15]) rfl ?_); at_builtin; refine Kd.R_append (Kd.int .u64) (w0 := w) w.heap.size rfl (.tmp 13) (.tmp 15) 22 50 (.int .u64 0) 8 rfl Tryz.underlying22 Pr.info50 rfl (by decide) (by omega) u3 (ws.take i) (rd ws (i : Int)) [.int .u64 (rd ws (i : Int))] (fun _ => True) (fun _ => False) rfl rfl ?aP (fun _ hk => hk.elim) ?aF ?aO ?aB ?aS ?aL ?_; (case aP => exact rfl); (case aB => exact (by repeat (first | (with_reducible first | exact HB.out | apply below_alloc | apply pw_below_drewN | apply below_drew1) | exact HB.out))); (case aF => exact (fun _ _ => trivial)); (case aO => exact (by (with_reducible repeat (first | apply Kd.R_alloc | apply Kd.R_drewN | apply Kd.R_drew)); exact HO.out)); (case aS => exact (below_size (by repeat (first | (with_reducible first | exact HB.out | apply below_alloc | apply pw_below_drewN | apply below_drew1) | exact HB.out)))); (case aL => have := List.length_take_le i ws; omega); intro v316 w6 ho hb hg hat; rw [← HT.out] at ho; have n0_ := Aside0.mk (hb); have n1_ := Aside0.mk (ho); clear HB; clear HO; have HB := n0_; have HO := n1_; clear n0_ n1_; clear ho hb hg hat))
      go_roundg (gk - 1)
      case measure => have := HI.out; omega
      case rel => exact ⟨i + 1, by go_num, ⟨by have := HI.out; omega⟩, ⟨by (with_reducible repeat (first | apply Kd.R_alloc | apply Kd.R_drewN | apply Kd.R_drew)); exact HO.out⟩, ⟨by repeat (first | (with_reducible first | exact HB.out | apply below_alloc | apply pw_below_drewN | apply below_drew1) | exact HB.out)⟩⟩
    · have hb : decide ((i : Int) < (ws.length : Int)) = false := by simp; omega
      obtain rfl : i = ws.length := by have := HI.out; omega
      rw [List.take_length] at HO
      clear hlt
      go_wp2
      go_ret
      exact ⟨_, rfl, HO.out, HB.out⟩

def wordsOf64 (x : Int) : List Int := if x = 0 then [] else [x]

theorem C_one {k : IntKind} {w : World} {ad : Addr} {x : Int} (h : w.cell? ad = some (.int k x)) : Kd.C (Kd.int k) w (some ad) 1 [x] := by
  refine ⟨rfl, by decide, fun _ => ⟨ad, rfl, fun j p hp => ?_⟩⟩
  cases j with
  | zero =>
    have hp' : p = x := by simpa using hp.symm
    subst hp'
    refine ⟨[.int k p], rfl, rfl, fun i u hu => ?_⟩
    cases i with
    | zero =>
      have : u = .int k p := by simpa using hu.symm
      rw [this]
      simpa [Addr.add_zero'] using h
    | succ i => simp at hu
  | succ j => simp at hp

/-- Old cells and marks read as before. -/
theorem bcell {B : Nat} {W w1 : World} (hb : Below B W w1) : (∀ b o, b < B → w1.cell? ⟨b, o, none⟩ = W.cell? ⟨b, o, none⟩) ∧ (∀ b o, b < B → w1.frozen? ⟨b, o, none⟩ = W.frozen? ⟨b, o, none⟩) :=
  ⟨fun b o h => hb.cell (p := ⟨b, o, none⟩) h, fun b o h => hb.frozen (p := ⟨b, o, none⟩) h⟩
theorem hk_alloc {W : World} {k : Nat} {X : Option Obj} (o : Obj) (hk : k < W.heap.size) (h : W.heap[k]? = X) : (W.alloc o).heap[k]? = X := (Below.heap_alloc W o k hk).trans h
theorem hk_set {W : World} {k : Nat} {X : Option Obj} {a : Addr} {u : Value} (hk : k ≠ a.block) (h : W.heap[k]? = X) : (W.setCell a u).heap[k]? = X := (Below.heap_setCell W a u k hk).trans h
/-- A row that was made from base on reads the same in a later world in which the blocks from N on have stayed. -/
theorem R_after {α : Type} {d : Kd α} {e base b' N : Nat} {ok : Nat → Prop} {w1 W2 : World} {v : Value} {xs : List α} (h : d.R e w1 base ok v xs) (hN : N ≤ base) (hb : b' ≤ base)
    (hk : ∀ k, N ≤ k → k < w1.heap.size → W2.heap[k]? = w1.heap[k]?) : d.R e W2 b' (fun _ => True) v xs :=
  Kd.R_mono (Kd.R_lower (Kd.R_step (Kd.R_bound h) (fun k ho hlt => hk k (by have := ho.2.1; omega) hlt)) hb) (fun _ _ => trivial)

set_option maxHeartbeats 1000000 in
set_option maxRecDepth 100000 in
/-- impl.number of an Int that is not below 0. -/
theorem number_calls (g : Nat) (A : Option Addr) (c : Nat) (ws : List Int) (w : World) (hl : ws.length < 17592186044416)
    (hc0 : w.cell? ⟨g, 0, none⟩ = some (.bool false)) (hc1 : w.cell? ⟨g, 1, none⟩ = some (.slice A ws.length c)) (hr : Kd.C (Kd.int .u64) w A ws.length ws) :
    Calls Tryz.prog 58 #[.pointer (some ⟨g, 0, none⟩)] w fun e w' => ∃ v, e = .returned (.agg #[.bool false, v]) ∧ Kd.R (Kd.int .u64) 50 w' w.heap.size (fun _ => True) v ws ∧ Below w.heap.size w w' := by
  have HR := Aside0.mk hr
  clear hr
  have hg : g < w.heap.size := World.block_lt_of_cell? w _ hc0
  have HL := Aside0.mk hl
  clear hl
  have HB0 := Aside0.mk ((Below.refl w.heap.size w).alloc (Nat.le_refl _) (Obj.cells #[Value.bool false, Value.slice none 0 0] 24))
  have HC1 := Aside0.mk ((HB0.out.cell (p := ⟨g, 1, none⟩) hg).trans hc1)
  go_enter Tryz.func58, Tryz.ntmps58
  go_wp2_with (first | (go_at_call 61; (refine (plain_calls g A c ws _ HL.out HC1.out (Kd.C_below HR.out HB0.out)).mono ?_); rintro e w1 ⟨v, rfl, hR, hB⟩; have hR' := Aside0.mk hR; have hB' := Aside0.mk hB; have hs := hB.size; simp only [World.size_alloc] at hs; obtain ⟨q1, q2⟩ := bcell hB; have e0 := q1 w.heap.size 0 (by simp); have e1 := q1 w.heap.size 1 (by simp); have f0 := q2 w.heap.size 0 (by simp); have f1 := q2 w.heap.size 1 (by simp); clear q1 q2 hR hB; obtain ⟨Av, cv, rfl, -⟩ := Kd.R_reads hR'.out) | go_in)
  all_goals
    refine bodyPost_ret (v := .agg #[.bool false, .slice Av ws.length cv]) (by simp [results, Tryz.results58, go_sem, e0, e1]) rfl ⟨_, rfl, ?_, ?_⟩
    · exact R_after (N := w.heap.size + 1) hR'.out (by simp) (by simp) (fun k h1 h2 => hk_set (by simp; omega) (hk_set (by simp; omega) rfl))
    · exact ((HB0.out.trans (hB'.out.mono (by simp))).setCell (Nat.le_refl _) _).setCell (Nat.le_refl _) _

set_option maxHeartbeats 1000000 in
set_option maxRecDepth 100000 in
theorem parts_int64_pos (x : Int) (w : World) (h0 : 0 < x) (h1 : x ≤ 9223372036854775807) :
    Calls Tryz.prog 40 #[.iface 88 (.int .i64 x)] w fun e w' => ∃ v u, e = .returned (.tuple #[.agg #[.bool false, v], u]) ∧ Kd.R (Kd.int .u64) 50 w' w.heap.size (fun _ => True) v [x] ∧ Below w.heap.size w w' := by
  have q0 : (((w.alloc (Obj.cells #[Value.bool false, Value.slice none 0 0] 24)).alloc (Obj.cells #[Value.bool false, Value.slice (some ⟨w.heap.size + 1 + 1, 0, none⟩) 1 1] 116)).alloc (Obj.cells #[Value.int IntKind.u64 x] 167)).cell? ⟨w.heap.size + 1, 0, none⟩ = some (.bool false) := by go_simp
  have q1 : (((w.alloc (Obj.cells #[Value.bool false, Value.slice none 0 0] 24)).alloc (Obj.cells #[Value.bool false, Value.slice (some ⟨w.heap.size + 1 + 1, 0, none⟩) 1 1] 116)).alloc (Obj.cells #[Value.int IntKind.u64 x] 167)).cell? ⟨w.heap.size + 1, 1, none⟩ = some (.slice (some ⟨w.heap.size + 1 + 1, 0, none⟩) [x].length 1) := by first | (go_simp; done) | (go_simp; rfl)
  have q2 : (((w.alloc (Obj.cells #[Value.bool false, Value.slice none 0 0] 24)).alloc (Obj.cells #[Value.bool false, Value.slice (some ⟨w.heap.size + 1 + 1, 0, none⟩) 1 1] 116)).alloc (Obj.cells #[Value.int IntKind.u64 x] 167)).cell? ⟨w.heap.size + 1 + 1, 0, none⟩ = some (.int .u64 x) := by go_simp
  have Q0 := Aside0.mk q0
  have Q1 := Aside0.mk q1
  have Q2 := Aside0.mk q2
  clear q0 q1 q2
  have HB0 := Aside0.mk ((((Below.refl w.heap.size w).alloc (Nat.le_refl _) (Obj.cells #[Value.bool false, Value.slice none 0 0] 24)).alloc (by first | (simp; done) | (simp; omega)) (Obj.cells #[Value.bool false, Value.slice (some ⟨w.heap.size + 1 + 1, 0, none⟩) 1 1] 116)).alloc (by first | (simp; done) | (simp; omega)) (Obj.cells #[Value.int IntKind.u64 x] 167))
  go_enter Tryz.func40, Tryz.ntmps40
  go_wp2_with (first | (go_at_call 58; go_must (refine (number_calls _ (some ⟨w.heap.size + 1 + 1, 0, none⟩) 1 [x] _ (by simp) Q0.out Q1.out (C_one Q2.out)).mono ?_); rintro e w1 ⟨v, rfl, hR, hB⟩; have hR' := Aside0.mk hR; have hB' := Aside0.mk hB; have hs := hB.size; simp only [World.size_alloc] at hs; obtain ⟨q1, q2⟩ := bcell hB; have e0 : w1.cell? ⟨w.heap.size, 0, none⟩ = some (.bool false) := (q1 w.heap.size 0 (by simp; omega)).trans (by go_simp); have e1 : w1.cell? ⟨w.heap.size, 1, none⟩ = some (.slice none 0 0) := (q1 w.heap.size 1 (by simp; omega)).trans (by go_simp); have f0 := q2 w.heap.size 0 (by simp; omega); have f1 := q2 w.heap.size 1 (by simp; omega); have hz : w.heap.size < w1.heap.size := (by omega); clear q1 q2 hR hB; obtain ⟨Av, cv, rfl, -⟩ := Kd.R_reads hR'.out) | go_in)
  refine bodyPost_ret (v := .tuple #[.agg #[.bool false, .slice Av 1 cv], .slice (some ⟨w1.heap.size, 0, none⟩) 1 1]) (by simp [results, Tryz.results40, go_sem, e0, e1, hz]) rfl ⟨_, _, rfl, ?_, ?_⟩
  · exact R_after (N := w.heap.size + 1) hR'.out (by simp; try omega) (by simp; try omega) (fun k h1 h2 => hk_alloc _ (by simp; omega) (hk_set (by simp; omega) (hk_set (by simp; omega) rfl)))
  · exact (((HB0.out.trans (hB'.out.mono (by simp; omega))).setCell (Nat.le_refl _) _).setCell (Nat.le_refl _) _).alloc (by simp; omega) _

theorem C_nil {k : IntKind} {w : World} (A : Option Addr) : Kd.C (Kd.int k) w A 0 [] := ⟨rfl, by decide, fun h => absurd h (by decide)⟩
set_option maxHeartbeats 1000000 in
set_option maxRecDepth 100000 in
theorem parts_int64_zero (w : World) :
    Calls Tryz.prog 40 #[.iface 88 (.int .i64 0)] w fun e w' => ∃ v u, e = .returned (.tuple #[.agg #[.bool false, v], u]) ∧ Kd.R (Kd.int .u64) 50 w' w.heap.size (fun _ => True) v [] ∧ Below w.heap.size w w' := by
  have q0 : ((w.alloc (Obj.cells #[Value.bool false, Value.slice none 0 0] 24)).alloc (Obj.cells #[Value.bool false, Value.slice none 0 0] 116)).cell? ⟨w.heap.size + 1, 0, none⟩ = some (.bool false) := by go_simp
  have q1 : ((w.alloc (Obj.cells #[Value.bool false, Value.slice none 0 0] 24)).alloc (Obj.cells #[Value.bool false, Value.slice none 0 0] 116)).cell? ⟨w.heap.size + 1, 1, none⟩ = some (.slice none ([] : List Int).length 0) := by first | (go_simp; done) | (go_simp; rfl)
  have Q0 := Aside0.mk q0
  have Q1 := Aside0.mk q1
  clear q0 q1
  have HB0 := Aside0.mk (((Below.refl w.heap.size w).alloc (Nat.le_refl _) (Obj.cells #[Value.bool false, Value.slice none 0 0] 24)).alloc (by first | (simp; done) | (simp; omega)) (Obj.cells #[Value.bool false, Value.slice none 0 0] 116))
  go_enter Tryz.func40, Tryz.ntmps40
  go_wp2_with (first | (go_at_call 58; go_must (refine (number_calls _ none 0 [] _ (by simp) Q0.out Q1.out (C_nil none)).mono ?_); rintro e w1 ⟨v, rfl, hR, hB⟩; have hR' := Aside0.mk hR; have hB' := Aside0.mk hB; have hs := hB.size; simp only [World.size_alloc] at hs; obtain ⟨q1, q2⟩ := bcell hB; have e0 : w1.cell? ⟨w.heap.size, 0, none⟩ = some (.bool false) := (q1 w.heap.size 0 (by simp; omega)).trans (by go_simp); have e1 : w1.cell? ⟨w.heap.size, 1, none⟩ = some (.slice none 0 0) := (q1 w.heap.size 1 (by simp; omega)).trans (by go_simp); have f0 := q2 w.heap.size 0 (by simp; omega); have f1 := q2 w.heap.size 1 (by simp; omega); have hz : w.heap.size < w1.heap.size := (by omega); clear q1 q2 hR hB; obtain ⟨Av, cv, rfl, -⟩ := Kd.R_reads hR'.out) | go_in)
  refine bodyPost_ret (v := .tuple #[.agg #[.bool false, .slice Av 0 cv], .slice (some ⟨w1.heap.size, 0, none⟩) 1 1]) (by simp [results, Tryz.results40, go_sem, e0, e1, hz]) rfl ⟨_, _, rfl, ?_, ?_⟩
  · exact R_after (N := w.heap.size + 1) hR'.out (by simp; try omega) (by simp; try omega) (fun k h1 h2 => hk_alloc _ (by simp; omega) (hk_set (by simp; omega) (hk_set (by simp; omega) rfl)))
  · exact (((HB0.out.trans (hB'.out.mono (by simp; omega))).setCell (Nat.le_refl _) _).setCell (Nat.le_refl _) _).alloc (by simp; omega) _
end Go.Proofs.YtgpoplfgngiilaaGreatDoor
/- told of an integer value; IsInt. -/
namespace Go.Proofs.YtgpoplfgngiilaaGreatDoor
open Go.RowKit Go.Proofs.YtgpoplfgngiilaaGreatDoorW.PrintWords Go.Proofs.YtgpoplfgngiilaaGreatDoorW.PrintLast Go.Proofs.YtgpoplfgngiilaaGreatDoorW.PrintMore

theorem me_kind_88 (v : Value) (w : World) : (method 462 88 v "Kind").run Tryz.prog w = .ok (308, v) w := by kernel_rfl
theorem me_kind_94 (v : Value) (w : World) : (method 462 94 v "Kind").run Tryz.prog w = .ok (314, v) w := by kernel_rfl
attribute [local go_sem] me_kind_88 me_kind_94

theorem parts_int64 (x : Int) (w : World) (h0 : 0 ≤ x) (h1 : x ≤ 9223372036854775807) :
    Calls Tryz.prog 40 #[.iface 88 (.int .i64 x)] w fun e w' => ∃ v u, e = .returned (.tuple #[.agg #[.bool false, v], u]) ∧ Kd.R (Kd.int .u64) 50 w' w.heap.size (fun _ => True) v (wordsOf64 x) ∧ Below w.heap.size w w' := by
  unfold wordsOf64
  by_cases hx : x = 0
  · subst hx; rw [if_pos rfl]; exact parts_int64_zero w
  · rw [if_neg hx]; exact parts_int64_pos x w (by omega) h1

set_option maxHeartbeats 1000000 in
set_option maxRecDepth 100000 in
theorem told_int64 (x : Int) (w : World) (h0 : 0 ≤ x) (h1 : x ≤ 9223372036854775807) :
    Calls Tryz.prog 26 #[.iface 88 (.int .i64 x)] w fun e w' => ∃ v, e = .returned (.agg #[.int .i64 3, .bool false, .string ⟨#[]⟩, .bool false, v, .slice none 0 0, .bool false, .slice none 0 0, .slice none 0 0]) ∧ Kd.R (Kd.int .u64) 50 w' w.heap.size (fun _ => True) v (wordsOf64 x) ∧ Below w.heap.size w w' := by
  go_enter Tryz.func26, Tryz.ntmps26
  go_wp2_with (first | (go_at_call 40; (refine (parts_int64 x _ h0 h1).mono ?_); rintro e w1 ⟨v, u, rfl, hR, hB⟩; have hR' := Aside0.mk hR; have hB' := Aside0.mk hB; have hs := hB.size; simp only [World.size_alloc] at hs; obtain ⟨q1, q2⟩ := bcell hB; simp only [World.size_alloc] at q1 q2; have hz : w.heap.size < w1.heap.size := (by omega); have hz1 : w.heap.size + 1 < w1.heap.size := (by omega); clear hR hB; obtain ⟨Av, cv, rfl, -⟩ := Kd.R_reads hR'.out) | go_in)
  have e0 : w1.cell? ⟨w.heap.size, 0, none⟩ = some (.int .i64 0) := (q1 w.heap.size 0 (by omega)).trans (by go_simp)
  have e1 : w1.cell? ⟨w.heap.size, 1, none⟩ = some (.bool false) := (q1 w.heap.size 1 (by omega)).trans (by go_simp)
  have e2 : w1.cell? ⟨w.heap.size, 2, none⟩ = some (.string ⟨#[]⟩) := (q1 w.heap.size 2 (by omega)).trans (by go_simp)
  have e3 : w1.cell? ⟨w.heap.size, 3, none⟩ = some (.bool false) := (q1 w.heap.size 3 (by omega)).trans (by go_simp)
  have e4 : w1.cell? ⟨w.heap.size, 4, none⟩ = some (.slice none 0 0) := (q1 w.heap.size 4 (by omega)).trans (by go_simp)
  have e5 : w1.cell? ⟨w.heap.size, 5, none⟩ = some (.slice none 0 0) := (q1 w.heap.size 5 (by omega)).trans (by go_simp)
  have e6 : w1.cell? ⟨w.heap.size, 6, none⟩ = some (.bool false) := (q1 w.heap.size 6 (by omega)).trans (by go_simp)
  have e7 : w1.cell? ⟨w.heap.size, 7, none⟩ = some (.slice none 0 0) := (q1 w.heap.size 7 (by omega)).trans (by go_simp)
  have e8 : w1.cell? ⟨w.heap.size, 8, none⟩ = some (.slice none 0 0) := (q1 w.heap.size 8 (by omega)).trans (by go_simp)
  refine bodyPost_ret (v := .agg #[.int .i64 3, .bool false, .string ⟨#[]⟩, .bool false, .slice Av (wordsOf64 x).length cv, .slice none 0 0, .bool false, .slice none 0 0, .slice none 0 0]) (by simp [results, Tryz.results26, go_sem, e0, e1, e2, e3, e4, e5, e6, e7, e8]) rfl ⟨_, rfl, ?_, ?_⟩
  · refine R_after (N := w.heap.size + 2) hR'.out (by simp) (by simp; try omega) ?_
    intro k h1 h2
    repeat (refine hk_set (by simp; omega) ?_)
    rfl
  · have hb0 : Below w.heap.size w w1 := (((Below.refl w.heap.size w).alloc (Nat.le_refl _) _).alloc (by simp) _).trans (hB'.out.mono (by simp; omega))
    repeat (refine Below.setCell ?_ (by simp) _)
    exact hb0
end Go.Proofs.YtgpoplfgngiilaaGreatDoor
/- Small words on worlds: a frame by a set of blocks, what a later world keeps. -/
namespace Go.Proofs.YtgpoplfgngiilaaGreatDoor
open Go.RowKit Go.Proofs.YtgpoplfgngiilaaGreatDoorW.PrintWords Go.Proofs.YtgpoplfgngiilaaGreatDoorW.PrintLast Go.Proofs.YtgpoplfgngiilaaGreatDoorW.PrintMore

/-- w' is w with new blocks, and perhaps other cells in the blocks of S. -/
structure Fr (S : Nat → Prop) (w w' : World) : Prop where
  os : w'.os = w.os
  tape : w'.tape = w.tape
  output : w'.output = w.output
  size : w.heap.size ≤ w'.heap.size
  block : ∀ k, k < w.heap.size → ¬ S k → w'.heap[k]? = w.heap[k]?

namespace Fr
variable {S S' : Nat → Prop} {w w' w2 : World}
theorem refl (S : Nat → Prop) (w : World) : Fr S w w := ⟨rfl, rfl, rfl, Nat.le_refl _, fun _ _ _ => rfl⟩
theorem mono (h : Fr S w w') (hs : ∀ k, S k → S' k) : Fr S' w w' := ⟨h.os, h.tape, h.output, h.size, fun k hk hn => h.block k hk (fun h' => hn (hs k h'))⟩
theorem trans (h : Fr S w w') (h2 : Fr S w' w2) : Fr S w w2 :=
  ⟨h2.os.trans h.os, h2.tape.trans h.tape, h2.output.trans h.output, Nat.le_trans h.size h2.size, fun k hk hn => (h2.block k (Nat.lt_of_lt_of_le hk h.size) hn).trans (h.block k hk hn)⟩
theorem of_below (h : Below w.heap.size w w') : Fr S w w' := ⟨h.os, h.tape, h.output, h.size, fun k hk _ => h.block k hk⟩
theorem below (h : Fr S w w') (hb : Below w'.heap.size w' w2) : Fr S w w2 := h.trans (of_below hb)
theorem drew (h : Fr S w w') : Fr S w w'.drew := ⟨h.os, h.tape, h.output, h.size, h.block⟩
theorem alloc (h : Fr S w w') (o : Obj) : Fr S w (w'.alloc o) := h.below ((Below.refl _ _).alloc (Nat.le_refl _) o)
theorem setCell (h : Fr S w w') {p : Addr} (hp : S p.block ∨ w.heap.size ≤ p.block) (u : Value) : Fr S w (w'.setCell p u) :=
  ⟨h.os, h.tape, h.output, by simpa [World.setCell] using h.size, fun k hk hn => (Below.heap_setCell w' p u k (fun e => by
    subst e
    rcases hp with hp | hp
    · exact hn hp
    · omega)).trans (h.block k hk hn)⟩
theorem call (h : Fr S w w') (h2 : Fr S' w' w2) (hs : ∀ k, S' k → S k ∨ w.heap.size ≤ k) : Fr S w w2 :=
  ⟨h2.os.trans h.os, h2.tape.trans h.tape, h2.output.trans h.output, Nat.le_trans h.size h2.size, fun k hk hn => (h2.block k (Nat.lt_of_lt_of_le hk h.size) (fun h' => (hs k h').elim hn (fun h3 => by omega))).trans (h.block k hk hn)⟩
theorem cell (h : Fr S w w') {p : Addr} (hp : p.block < w.heap.size) (hn : ¬ S p.block) : w'.cell? p = w.cell? p := World.cell?_of_block (h.block _ hp hn)
theorem frozen (h : Fr S w w') {p : Addr} (hp : p.block < w.heap.size) (hn : ¬ S p.block) : w'.frozen? p = w.frozen? p := World.frozen?_of_block (h.block _ hp hn)
theorem toBelow {B : Nat} (h : Fr S w w') (hB : B ≤ w.heap.size) (hs : ∀ k, S k → B ≤ k) : Below B w w' :=
  ⟨h.os, h.tape, h.output, h.size, fun k hk => h.block k (by omega) (fun h' => by have := hs k h'; omega)⟩
theorem cellv (h : Fr S w w') {p : Addr} {v : Value} (hc : w.cell? p = some v) (hn : ¬ S p.block) : w'.cell? p = some v := (h.cell (World.block_lt_of_cell? w p hc) hn).trans hc
end Fr

theorem C_fr {α : Type} {d : Kd α} {S ok : Nat → Prop} {w w' : World} {e base : Nat} {v : Value} {xs : List α} (h : Kd.V d e w base ok v xs) (hf : Fr S w w') (hs : ∀ k, ok k → ¬ S k) : Kd.V d e w' base ok v xs :=
  Kd.V_step h (fun k ho hk => hf.block k hk (hs k ho))

/-- A block's cells, read one by one. -/
theorem blk_cell {w : World} {g : Nat} {cs : Array Value} {t : TypeId} (h : w.heap[g]? = some (.cells cs t (0, 0))) (i : Nat) : w.cell? ⟨g, i, none⟩ = cs[i]? := cell_of_row w g i cs t (0, 0) h
theorem blk_lt {w : World} {g : Nat} {o : Obj} (h : w.heap[g]? = some o) : g < w.heap.size := (Array.getElem?_eq_some_iff.1 h).1

end Go.Proofs.YtgpoplfgngiilaaGreatDoor
/- spec.IsInt of an integer that is not below 0. -/
namespace Go.Proofs.YtgpoplfgngiilaaGreatDoor
open Go.RowKit Go.Proofs.YtgpoplfgngiilaaGreatDoorW.PrintWords Go.Proofs.YtgpoplfgngiilaaGreatDoorW.PrintLast Go.Proofs.YtgpoplfgngiilaaGreatDoorW.PrintMore

set_option maxHeartbeats 1000000 in
set_option maxRecDepth 100000 in
/-- spec.IsNumber at a number that is not negated. -/
theorem isNumber_calls (k : Nat) (A0 : Option Addr) (c0 : Nat) (l0 : List Int) (A2 : Option Addr) (c2 : Nat) (l2 : List Int) (r : Bool) (w : World)
    (hr0 : Kd.C (Kd.int .u64) w A0 l0.length l0) (hc0 : l0.length ≤ c0) (hr2 : Kd.C (Kd.int .i64) w A2 l2.length l2) (hc2 : l2.length ≤ c2) (h : Pr.spec_HasWords.f k l0 l2 = some r) :
    Calls Tryz.prog 35 #[.agg #[.bool false, .slice A0 l0.length c0], .bool false, .slice A2 l2.length c2] w fun e w' => e = .returned (.bool r) ∧ Below w.heap.size w w' := by
  have HB0 := Aside0.mk ((Below.refl w.heap.size w).alloc (Nat.le_refl _) (Obj.cells #[.bool false, .slice A0 l0.length c0] 24))
  have HR0 := Aside0.mk (Kd.C_below hr0 HB0.out)
  have HR2 := Aside0.mk (Kd.C_below hr2 HB0.out)
  have HC0 := Aside0.mk hc0
  have HC2 := Aside0.mk hc2
  have H := Aside0.mk h
  clear hr0 hr2 hc0 hc2 h
  go_enter Tryz.func35, Tryz.ntmps35
  go_wp2_with (first | (go_at_call 55; go_must (refine (Pr.spec_HasWords.calls k A0 c0 l0 A2 c2 l2 r _ HR0.out HC0.out HR2.out HC2.out H.out).mono ?_); rintro e w1 ⟨rfl, hB⟩; have hB' := Aside0.mk hB; clear hB) | go_in)
  go_ret
  exact ⟨rfl, HB0.out.trans (hB'.out.mono (by simp))⟩

theorem small_one : Pr.spec_Small.f 2 1 = some [1] := by
  simp [Pr.spec_Small.f, Pr.spec_Small.l0, wrap64]

set_option maxHeartbeats 1000000 in
set_option maxRecDepth 100000 in
/-- spec.Whole of a number that is not negated. -/
theorem whole_calls (A : Option Addr) (c : Nat) (n : Nat) (w : World) :
    Calls Tryz.prog 20 #[.bool false, .slice A n c] w fun e w' => ∃ v, e = .returned (.agg #[.bool false, .slice A n c, v]) ∧ Kd.R (Kd.int .i64) 3 w' w.heap.size (fun _ => True) v [1] ∧ Below w.heap.size w w' := by
  have HB0 := Aside0.mk ((Below.refl w.heap.size w).alloc (Nat.le_refl _) (Obj.cells #[.bool false, .slice none 0 0, .slice none 0 0] 31))
  go_enter Tryz.func20, Tryz.ntmps20
  go_wp2_with (first | (go_at_call 28; go_must (refine (Pr.spec_Small.calls 2 1 [1] _ small_one).mono ?_); rintro e w1 ⟨v, rfl, hR, hB⟩; have hR' := Aside0.mk hR; have hB' := Aside0.mk hB; have hs := hB.size; simp only [World.size_alloc] at hs; obtain ⟨q1, q2⟩ := bcell hB; simp only [World.size_alloc] at q1 q2; have hz : w.heap.size < w1.heap.size := (by omega); clear hR hB; obtain ⟨Av, cv, rfl, -⟩ := Kd.R_reads hR'.out) | go_in)
  have e0 : w1.cell? ⟨w.heap.size, 0, none⟩ = some (.bool false) := (q1 w.heap.size 0 (by omega)).trans (by go_simp)
  have e1 : w1.cell? ⟨w.heap.size, 1, none⟩ = some (.slice none 0 0) := (q1 w.heap.size 1 (by omega)).trans (by go_simp)
  have e2 : w1.cell? ⟨w.heap.size, 2, none⟩ = some (.slice none 0 0) := (q1 w.heap.size 2 (by omega)).trans (by go_simp)
  refine bodyPost_ret (v := .agg #[.bool false, .slice A n c, .slice Av 1 cv]) (by simp [results, Tryz.results20, go_sem, e0, e1, e2]) rfl ⟨_, rfl, ?_, ?_⟩
  · refine R_after (N := w.heap.size + 1) hR'.out (by simp) (by simp) ?_
    intro k h1 h2
    repeat (refine hk_set (by simp; omega) ?_)
    rfl
  · have hb0 : Below w.heap.size w w1 := HB0.out.trans (hB'.out.mono (by simp))
    repeat (refine Below.setCell ?_ (by simp) _)
    exact hb0

/-- A fraction of an integer in a block of its own. -/
def NewRatio (base g : Nat) (l : List Int) (W : World) : Prop :=
  base ≤ g ∧ ∃ A2 c2 A3 c3, W.heap[g]? = some (.cells #[.bool false, .slice A2 l.length c2, .slice A3 1 c3] 31 (0, 0)) ∧ Kd.V (Kd.int .i64) 3 W base (fun k_ => base ≤ k_ ∧ k_ ≠ g) (.slice A2 l.length c2) l ∧ Kd.V (Kd.int .i64) 3 W base (fun k_ => base ≤ k_ ∧ k_ ≠ g) (.slice A3 1 c3) [1]

theorem newRatio_mk {base g : Nat} {l : List Int} {W w2 : World} {A2 A3 : Option Addr} {c2 c3 : Nat} (hg : base ≤ g) (hh : W.heap[g]? = some (.cells #[.bool false, .slice A2 l.length c2, .slice A3 1 c3] 31 (0, 0)))
    (hV : Kd.V (Kd.int .i64) 3 w2 base (fun k_ => base ≤ k_ ∧ k_ ≠ g) (.slice A2 l.length c2) l) (hR : Kd.V (Kd.int .i64) 3 w2 base (fun k_ => base ≤ k_ ∧ k_ ≠ g) (.slice A3 1 c3) [1])
    (hk : ∀ k, k < w2.heap.size → k ≠ g → W.heap[k]? = w2.heap[k]?) : NewRatio base g l W :=
  ⟨hg, A2, c2, A3, c3, hh, Kd.V_step hV (fun k h1 h2 => hk k h2 h1.2), Kd.V_step hR (fun k h1 h2 => hk k h2 h1.2)⟩

theorem keep34 {W0 W1 : World} {b : Nat} {v3 v4 : Value} (hb : Below W0.heap.size W0 W1) (hz : b < W0.heap.size) (c3 : W0.cell? ⟨b, 3, none⟩ = some v3) (c4 : W0.cell? ⟨b, 4, none⟩ = some v4) :
    W1.cell? ⟨b, 3, none⟩ = some v3 ∧ W1.cell? ⟨b, 4, none⟩ = some v4 ∧ Below W0.heap.size W0 W1 := ⟨(hb.cell (p := ⟨b, 3, none⟩) hz).trans c3, (hb.cell (p := ⟨b, 4, none⟩) hz).trans c4, hb⟩

theorem rest_int (ws : List Int) : Pr.spec_rest.f 3 false ⟨#[]⟩ false ws [] false [] [] = some true := by
  unfold Pr.spec_rest.f
  rw [if_neg (by decide), if_pos (by rw [Lib.toList_data]), if_neg (by decide), if_pos (by rfl)]
  rfl

theorem keepI {S : Nat → Prop} {W W1 : World} {g b : Nat} {x0 x1 x2 v0 v1 v2 v3 v4 v5 v6 v7 v8 : Value} (hf : Fr S W W1) (hg : ¬ S g) (hb : ¬ S b)
    (d0 : W.cell? ⟨g, 0, none⟩ = some x0) (d1 : W.cell? ⟨g, 1, none⟩ = some x1) (d2 : W.cell? ⟨g, 2, none⟩ = some x2)
    (e0 : W.cell? ⟨b, 0, none⟩ = some v0) (e1 : W.cell? ⟨b, 1, none⟩ = some v1) (e2 : W.cell? ⟨b, 2, none⟩ = some v2) (e3 : W.cell? ⟨b, 3, none⟩ = some v3) (e4 : W.cell? ⟨b, 4, none⟩ = some v4)
    (e5 : W.cell? ⟨b, 5, none⟩ = some v5) (e6 : W.cell? ⟨b, 6, none⟩ = some v6) (e7 : W.cell? ⟨b, 7, none⟩ = some v7) (e8 : W.cell? ⟨b, 8, none⟩ = some v8) :
    W1.cell? ⟨g, 0, none⟩ = some x0 ∧ W1.cell? ⟨g, 1, none⟩ = some x1 ∧ W1.cell? ⟨g, 2, none⟩ = some x2 ∧ W1.cell? ⟨b, 0, none⟩ = some v0 ∧ W1.cell? ⟨b, 1, none⟩ = some v1 ∧ W1.cell? ⟨b, 2, none⟩ = some v2 ∧ W1.cell? ⟨b, 3, none⟩ = some v3 ∧ W1.cell? ⟨b, 4, none⟩ = some v4 ∧ W1.cell? ⟨b, 5, none⟩ = some v5 ∧ W1.cell? ⟨b, 6, none⟩ = some v6 ∧ W1.cell? ⟨b, 7, none⟩ = some v7 ∧ W1.cell? ⟨b, 8, none⟩ = some v8 ∧ Fr S W W1 :=
  ⟨hf.cellv d0 hg, hf.cellv d1 hg, hf.cellv d2 hg, hf.cellv e0 hb, hf.cellv e1 hb, hf.cellv e2 hb, hf.cellv e3 hb, hf.cellv e4 hb, hf.cellv e5 hb, hf.cellv e6 hb, hf.cellv e7 hb, hf.cellv e8 hb, hf⟩

set_option maxHeartbeats 2000000 in
set_option maxRecDepth 100000 in
/-- spec.Integer of an integer that is not negated. -/
theorem integer_calls (k : Nat) (A : Option Addr) (c : Nat) (ws l : List Int) (w : World) (hr : Kd.C (Kd.int .u64) w A ws.length ws) (hc : ws.length ≤ c)
    (hOf : Pr.spec_Of.f k ws = some l) (hW : Pr.spec_HasWords.f k ws l = some true) :
    Calls Tryz.prog 23 #[.agg #[.int .i64 3, .bool false, .string ⟨#[]⟩, .bool false, .slice A ws.length c, .slice none 0 0, .bool false, .slice none 0 0, .slice none 0 0]] w
      fun e w' => ∃ u v, e = .returned (.tuple #[.agg #[.bool false, u, v], .bool true]) ∧ Kd.V (Kd.int .i64) 3 w' w.heap.size (fun k_ => w.heap.size ≤ k_) u l ∧ Kd.V (Kd.int .i64) 3 w' w.heap.size (fun k_ => w.heap.size ≤ k_) v [1] ∧ Below w.heap.size w w' := by
  obtain ⟨W0, hW0⟩ : ∃ W0, W0 = (w.alloc (Obj.cells #[.int .i64 3, .bool false, .string ⟨#[]⟩, .bool false, .slice A ws.length c, .slice none 0 0, .bool false, .slice none 0 0, .slice none 0 0] 26)).alloc (Obj.cells #[.bool false, .slice none 0 0, .slice none 0 0] 31) := ⟨_, rfl⟩
  have HB0 := Aside0.mk (show Below w.heap.size w W0 by rw [hW0]; exact ((Below.refl w.heap.size w).alloc (Nat.le_refl _) _).alloc (by simp) _)
  have c03 : W0.cell? ⟨w.heap.size, 3, none⟩ = some (.bool false) := by rw [hW0]; go_simp
  have c04 : W0.cell? ⟨w.heap.size, 4, none⟩ = some (.slice A ws.length c) := by rw [hW0]; go_simp
  have hz0 : W0.heap.size = w.heap.size + 2 := by rw [hW0]; simp
  have HZ := Aside0.mk hz0
  have HR := Aside0.mk (Kd.C_below hr HB0.out)
  have HRw := Aside0.mk hr
  have HC := Aside0.mk hc
  have HOf := Aside0.mk hOf
  have HW := Aside0.mk hW
  have HW0 := Aside0.mk hW0
  clear hr hc hOf hW hz0 hW0
  have hbz : w.heap.size < W0.heap.size := by have := HZ.out; omega
  go_enter Tryz.func23, Tryz.ntmps23
  go_upto_region 3 with fail
  rw [← HW0.out]
  go_cut [4] (fun s4 wc => ∃ g : Nat, s4 = .pointer (some ⟨g, 0, none⟩) ∧ NewRatio W0.heap.size g l wc ∧ Aside0 (Below W0.heap.size W0 wc))
  case first =>
    have hb0 := Below.refl W0.heap.size W0
    go_region_held3 (fun w' => w'.cell? ⟨w.heap.size, 3, none⟩ = some (.bool false) ∧ w'.cell? ⟨w.heap.size, 4, none⟩ = some (.slice A ws.length c) ∧ Below W0.heap.size W0 w')
      ((exact keep34 (by repeat (first | assumption | apply Below.drew | (refine Below.alloc ?_ (by first | exact Nat.le_refl _ | (simp; done) | omega | (simp; omega)) _) | (refine Below.setCell ?_ (by first | exact Nat.le_refl _ | (simp; done) | omega | (simp; omega)) _))) hbz c03 c04))
      (first | (go_at_call 15; refine (Pr.spec_Of.calls k A c ws l _ ?_ HC.out HOf.out).mono ?_; (exact Kd.C_below HR.out (by repeat (first | assumption | apply Below.drew | (refine Below.alloc ?_ (by first | exact Nat.le_refl _ | (simp; done) | omega | (simp; omega)) _) | (refine Below.setCell ?_ (by first | exact Nat.le_refl _ | (simp; done) | omega | (simp; omega)) _)))); rintro e w1 ⟨v, rfl, hV, hB⟩; have hs1 := hB.size; (try simp only [World.size_alloc, World.size_drew] at hs1); have hb1 : Below W0.heap.size W0 w1 := Below.trans (by repeat (first | assumption | apply Below.drew | (refine Below.alloc ?_ (by first | exact Nat.le_refl _ | (simp; done) | omega | (simp; omega)) _) | (refine Below.setCell ?_ (by first | exact Nat.le_refl _ | (simp; done) | omega | (simp; omega)) _))) (hB.mono (by first | exact Nat.le_refl _ | (simp; done) | omega | (simp; omega))); have ht1 := hb1.size; (try have hu1 : W0.heap.size < w1.heap.size := by omega); obtain ⟨qa1, qb1⟩ := bcell hB; (try simp only [World.size_alloc, World.size_drew] at qa1 qb1); obtain ⟨A2, c2, rfl⟩ := Kd.V_slice hV) | (go_at_call 20; refine (whole_calls _ _ _ _).mono ?_; rintro e w2 ⟨v, rfl, hR2, hB2⟩; have hs2 := hB2.size; (try simp only [World.size_alloc] at hs2); have hb2 : Below W0.heap.size W0 w2 := Below.trans (by repeat (first | assumption | apply Below.drew | (refine Below.alloc ?_ (by first | exact Nat.le_refl _ | (simp; done) | omega | (simp; omega)) _) | (refine Below.setCell ?_ (by first | exact Nat.le_refl _ | (simp; done) | omega | (simp; omega)) _))) (hB2.mono (by first | exact Nat.le_refl _ | (simp; done) | omega | (simp; omega))); have ht2 := hb2.size; obtain ⟨qa2, qb2⟩ := bcell hB2; (try simp only [World.size_alloc] at qa2 qb2); obtain ⟨A3, c3, rfl, -⟩ := Kd.R_reads hR2))
    all_goals have hVb := Kd.V_bound hV
    all_goals have hRb := Kd.R_V (base' := 0) (Kd.R_bound hR2)
    · go_wp2_with fail
      go_meet
      refine ⟨w2.heap.size, rfl, newRatio_mk (w2 := w2) ht2 (heap_alloc_new _ _) (Kd.V_mono (Kd.V_below hVb hB2) (fun k hk => ?_)) (Kd.V_mono hRb (fun k hk => ?_)) (fun k h1 h2 => hk_alloc _ h1 rfl), ⟨hb2.alloc ht2 _⟩⟩
      · simp only [World.size_drew] at hk; omega
      · omega
    · go_wp2_with fail
      go_meet
      refine ⟨w1.heap.size, rfl, newRatio_mk (w2 := w2) ht1 (blk_put (blk_put (blk_put ((hB2.block _ (by simp)).trans (heap_alloc_new _ _)) 0 _ rfl) 1 _ rfl) 2 _ rfl) (Kd.V_mono (Kd.V_below (Kd.V_alloc hVb _) hB2) (fun k hk => ?_)) (Kd.V_mono hRb (fun k hk => ?_)) (fun k h1 h2 => hk_set h2 (hk_set h2 (hk_set h2 rfl))), ⟨((hb2.setCell ht1 _).setCell ht1 _).setCell ht1 _⟩⟩
      · simp only [World.size_drew] at hk; omega
      · simp only [World.size_alloc] at hk; omega
    · go_wp2_with fail
      go_meet
      refine ⟨W0.heap.size, rfl, newRatio_mk (w2 := w2) (Nat.le_refl _) (blk_put (blk_put (blk_put ((hB2.block _ hu1).trans ((hB.block _ (by simp)).trans (heap_alloc_new _ _))) 0 _ rfl) 1 _ rfl) 2 _ rfl) (Kd.V_mono (Kd.V_below hVb hB2) (fun k hk => ?_)) (Kd.V_mono hRb (fun k hk => ?_)) (fun k h1 h2 => hk_set h2 (hk_set h2 (hk_set h2 rfl))), ⟨((hb2.setCell (Nat.le_refl _) _).setCell (Nat.le_refl _) _).setCell (Nat.le_refl _) _⟩⟩
      · simp only [World.size_drew, World.size_alloc] at hk; omega
      · omega
  case rest =>
    obtain ⟨g, rfl, HN, HBc⟩ := hcut
    obtain ⟨hgb, A2, c2, A3, c3, hh, hV, hR⟩ := HN
    have hbz1 : w.heap.size + 1 < W0.heap.size := by have := HZ.out; omega
    have d0 : wc.cell? ⟨g, 0, none⟩ = some (.bool false) := blk_cell hh 0
    have d1 : wc.cell? ⟨g, 1, none⟩ = some (.slice A2 l.length c2) := blk_cell hh 1
    have d2 : wc.cell? ⟨g, 2, none⟩ = some (.slice A3 1 c3) := blk_cell hh 2
    have e0 : wc.cell? ⟨w.heap.size, 0, none⟩ = some (.int .i64 3) := (HBc.out.cell (p := ⟨w.heap.size, 0, none⟩) hbz).trans (by rw [HW0.out]; go_simp)
    have e1 : wc.cell? ⟨w.heap.size, 1, none⟩ = some (.bool false) := (HBc.out.cell (p := ⟨w.heap.size, 1, none⟩) hbz).trans (by rw [HW0.out]; go_simp)
    have e2 : wc.cell? ⟨w.heap.size, 2, none⟩ = some (.string ⟨#[]⟩) := (HBc.out.cell (p := ⟨w.heap.size, 2, none⟩) hbz).trans (by rw [HW0.out]; go_simp)
    have e3 : wc.cell? ⟨w.heap.size, 3, none⟩ = some (.bool false) := (HBc.out.cell (p := ⟨w.heap.size, 3, none⟩) hbz).trans (by rw [HW0.out]; go_simp)
    have e4 : wc.cell? ⟨w.heap.size, 4, none⟩ = some (.slice A ws.length c) := (HBc.out.cell (p := ⟨w.heap.size, 4, none⟩) hbz).trans (by rw [HW0.out]; go_simp)
    have e5 : wc.cell? ⟨w.heap.size, 5, none⟩ = some (.slice none 0 0) := (HBc.out.cell (p := ⟨w.heap.size, 5, none⟩) hbz).trans (by rw [HW0.out]; go_simp)
    have e6 : wc.cell? ⟨w.heap.size, 6, none⟩ = some (.bool false) := (HBc.out.cell (p := ⟨w.heap.size, 6, none⟩) hbz).trans (by rw [HW0.out]; go_simp)
    have e7 : wc.cell? ⟨w.heap.size, 7, none⟩ = some (.slice none 0 0) := (HBc.out.cell (p := ⟨w.heap.size, 7, none⟩) hbz).trans (by rw [HW0.out]; go_simp)
    have e8 : wc.cell? ⟨w.heap.size, 8, none⟩ = some (.slice none 0 0) := (HBc.out.cell (p := ⟨w.heap.size, 8, none⟩) hbz).trans (by rw [HW0.out]; go_simp)
    have m0 : wc.cell? ⟨w.heap.size + 1, 0, none⟩ = some (.bool false) := (HBc.out.cell (p := ⟨w.heap.size + 1, 0, none⟩) hbz1).trans (by rw [HW0.out]; go_simp)
    have n0 : wc.frozen? ⟨w.heap.size + 1, 0, none⟩ = false := (HBc.out.frozen (p := ⟨w.heap.size + 1, 0, none⟩) hbz1).trans (by rw [HW0.out]; go_simp)
    have m1 : wc.cell? ⟨w.heap.size + 1, 1, none⟩ = some (.slice none 0 0) := (HBc.out.cell (p := ⟨w.heap.size + 1, 1, none⟩) hbz1).trans (by rw [HW0.out]; go_simp)
    have n1 : wc.frozen? ⟨w.heap.size + 1, 1, none⟩ = false := (HBc.out.frozen (p := ⟨w.heap.size + 1, 1, none⟩) hbz1).trans (by rw [HW0.out]; go_simp)
    have m2 : wc.cell? ⟨w.heap.size + 1, 2, none⟩ = some (.slice none 0 0) := (HBc.out.cell (p := ⟨w.heap.size + 1, 2, none⟩) hbz1).trans (by rw [HW0.out]; go_simp)
    have n2 : wc.frozen? ⟨w.heap.size + 1, 2, none⟩ = false := (HBc.out.frozen (p := ⟨w.heap.size + 1, 2, none⟩) hbz1).trans (by rw [HW0.out]; go_simp)
    have hgS : ¬ (g = w.heap.size + 1) := by omega
    have hbS : ¬ (w.heap.size = w.heap.size + 1) := by omega
    have hgl := blk_lt hh
    have huc : w.heap.size + 1 < wc.heap.size := by omega
    have hf0 : Fr (· = w.heap.size + 1) wc wc := Fr.refl _ _
    have HBw := Aside0.mk (HB0.out.trans (HBc.out.mono (by omega)))
    have HV := Aside0.mk hV
    have HV3 := Aside0.mk hR
    have HH := Aside0.mk hh
    clear hV hR hh
    go_upto_region 4 with fail
    go_region_held3 (fun w' => w'.cell? ⟨g, 0, none⟩ = some (.bool false) ∧ w'.cell? ⟨g, 1, none⟩ = some (.slice A2 l.length c2) ∧ w'.cell? ⟨g, 2, none⟩ = some (.slice A3 1 c3) ∧ w'.cell? ⟨w.heap.size, 0, none⟩ = some (.int .i64 3) ∧ w'.cell? ⟨w.heap.size, 1, none⟩ = some (.bool false) ∧ w'.cell? ⟨w.heap.size, 2, none⟩ = some (.string ⟨#[]⟩) ∧ w'.cell? ⟨w.heap.size, 3, none⟩ = some (.bool false) ∧ w'.cell? ⟨w.heap.size, 4, none⟩ = some (.slice A ws.length c) ∧ w'.cell? ⟨w.heap.size, 5, none⟩ = some (.slice none 0 0) ∧ w'.cell? ⟨w.heap.size, 6, none⟩ = some (.bool false) ∧ w'.cell? ⟨w.heap.size, 7, none⟩ = some (.slice none 0 0) ∧ w'.cell? ⟨w.heap.size, 8, none⟩ = some (.slice none 0 0) ∧ Fr (· = w.heap.size + 1) wc w')
      ((exact keepI (by repeat (first | assumption | apply Fr.drew | (refine Fr.setCell ?_ (Or.inl (by first | rfl | (simp; done))) _) | apply Fr.alloc)) hgS hbS d0 d1 d2 e0 e1 e2 e3 e4 e5 e6 e7 e8))
      (first | (go_at_call 35; refine (isNumber_calls k A c ws A2 c2 l true _ (Kd.C_below HRw.out (HBw.out.trans (Fr.toBelow (B := w.heap.size) (by repeat (first | assumption | apply Fr.drew | (refine Fr.setCell ?_ (Or.inl (by first | rfl | (simp; done))) _) | apply Fr.alloc)) (by have := HBw.out.size; omega) (fun k hk => by omega)))) HC.out (Kd.V_reads' (C_fr HV.out (by repeat (first | assumption | apply Fr.drew | (refine Fr.setCell ?_ (Or.inl (by first | rfl | (simp; done))) _) | apply Fr.alloc)) (fun k hk => by omega))).2.2 (Kd.V_reads' (C_fr HV.out (by repeat (first | assumption | apply Fr.drew | (refine Fr.setCell ?_ (Or.inl (by first | rfl | (simp; done))) _) | apply Fr.alloc)) (fun k hk => by omega))).2.1 HW.out).mono ?_; rintro e w1 ⟨rfl, hB⟩; have hs1 := hB.size; (try simp only [World.size_alloc, World.size_drew] at hs1); have hu1 : w.heap.size + 1 < w1.heap.size := (by omega); obtain ⟨qa1, qb1⟩ := bcell hB; (try simp only [World.size_alloc, World.size_drew] at qa1 qb1); have hf1 : Fr (· = w.heap.size + 1) wc w1 := Fr.below (by repeat (first | assumption | apply Fr.drew | (refine Fr.setCell ?_ (Or.inl (by first | rfl | (simp; done))) _) | apply Fr.alloc)) hB) | (go_at_call 36; refine (Pr.spec_rest.calls 3 false ⟨#[]⟩ false A c ws none 0 [] false none 0 [] none 0 [] true _ (Kd.C_below HRw.out (HBw.out.trans (Fr.toBelow (B := w.heap.size) (by repeat (first | assumption | apply Fr.drew | (refine Fr.setCell ?_ (Or.inl (by first | rfl | (simp; done))) _) | apply Fr.alloc)) (by have := HBw.out.size; omega) (fun k hk => by omega)))) HC.out (C_nil none) (Nat.le_refl _) (C_nil none) (Nat.le_refl _) (C_nil none) (Nat.le_refl _) (rest_int ws)).mono ?_; rintro e w2 ⟨rfl, hB2⟩; have hs2 := hB2.size; (try simp only [World.size_alloc, World.size_drew] at hs2); have hu2 : w.heap.size + 1 < w2.heap.size := (by omega); obtain ⟨qa2, qb2⟩ := bcell hB2; (try simp only [World.size_alloc, World.size_drew] at qa2 qb2); have hf2 : Fr (· = w.heap.size + 1) wc w2 := Fr.below (by repeat (first | assumption | apply Fr.drew | (refine Fr.setCell ?_ (Or.inl (by first | rfl | (simp; done))) _) | apply Fr.alloc)) hB2))
    go_wp2
    have hff : Fr (· = w.heap.size + 1) wc (((w2.setCell ⟨w.heap.size + 1, 0, none⟩ (.bool false)).setCell ⟨w.heap.size + 1, 1, none⟩ (.slice A2 l.length c2)).setCell ⟨w.heap.size + 1, 2, none⟩ (.slice A3 1 c3)) :=
      ((hf2.setCell (Or.inl rfl) _).setCell (Or.inl rfl) _).setCell (Or.inl rfl) _
    refine bodyPost_ret (v := .tuple #[.agg #[.bool false, .slice A2 l.length c2, .slice A3 1 c3], .bool true]) (by simp [results, Tryz.results23, go_sem, qa2, qa1, m0, m1, m2, hu1, huc]) rfl ⟨_, _, rfl, ?_, ?_, ?_⟩
    · exact Kd.V_mono (C_fr HV.out hff (fun k hk => by omega)) (fun k hk => by omega)
    · exact Kd.V_mono (C_fr HV3.out hff (fun k hk => by omega)) (fun k hk => by omega)
    · exact HBw.out.trans (hff.toBelow (by omega) (fun k hk => by omega))
end Go.Proofs.YtgpoplfgngiilaaGreatDoor
/- spec.IsInt of an integer that is not below 0. -/
namespace Go.Proofs.YtgpoplfgngiilaaGreatDoor
open Go.RowKit Go.Proofs.YtgpoplfgngiilaaGreatDoorW.PrintWords Go.Proofs.YtgpoplfgngiilaaGreatDoorW.PrintLast Go.Proofs.YtgpoplfgngiilaaGreatDoorW.PrintMore

set_option maxHeartbeats 2000000 in
set_option maxRecDepth 100000 in
/-- spec.IsInt: true of an integer that is not negated, where its digits are the ones asked for. -/
theorem isInt_calls (k : Nat) (A : Option Addr) (c : Nat) (ws l : List Int) (A2 : Option Addr) (c2 : Nat) (l2 : List Int) (A3 : Option Addr) (c3 : Nat) (w : World)
    (hr : Kd.C (Kd.int .u64) w A ws.length ws) (hc : ws.length ≤ c) (hr2 : Kd.C (Kd.int .i64) w A2 l2.length l2) (hc2 : l2.length ≤ c2) (hr3 : Kd.C (Kd.int .i64) w A3 1 [1]) (hc3 : 1 ≤ c3)
    (hOf : Pr.spec_Of.f k ws = some l) (hW : Pr.spec_HasWords.f k ws l = some true) (hS : Pr.spec_same.f k false l [1] false l2 [1] = some true) :
    Calls Tryz.prog 10 #[.agg #[.int .i64 3, .bool false, .string ⟨#[]⟩, .bool false, .slice A ws.length c, .slice none 0 0, .bool false, .slice none 0 0, .slice none 0 0], .agg #[.bool false, .slice A2 l2.length c2, .slice A3 1 c3]] w
      fun e w' => e = .returned (.bool true) ∧ Below w.heap.size w w' := by
  have HB0 := Aside0.mk (((Below.refl w.heap.size w).alloc (Nat.le_refl _) (Obj.cells #[.int .i64 3, .bool false, .string ⟨#[]⟩, .bool false, .slice A ws.length c, .slice none 0 0, .bool false, .slice none 0 0, .slice none 0 0] 26)).alloc (by simp) (Obj.cells #[.bool false, .slice A2 l2.length c2, .slice A3 1 c3] 31))
  have HR := Aside0.mk (Kd.C_below hr HB0.out)
  have HR2 := Aside0.mk hr2
  have HR3 := Aside0.mk hr3
  have HC := Aside0.mk hc
  have HC2 := Aside0.mk hc2
  have HC3 := Aside0.mk hc3
  have HOf := Aside0.mk hOf
  have HW := Aside0.mk hW
  have HS := Aside0.mk hS
  clear hr hr2 hr3 hc hc2 hc3 hOf hW hS
  go_enter Tryz.func10, Tryz.ntmps10
  go_wp2_with (first | (go_at_call 23; go_must (refine (integer_calls k A c ws l _ HR.out HC.out HOf.out HW.out).mono ?_); rintro e w1 ⟨u, v, rfl, hU, hV, hB⟩; have hs := hB.size; simp only [World.size_alloc] at hs; obtain ⟨q1, q2⟩ := bcell hB; simp only [World.size_alloc] at q1 q2; have HU := Aside0.mk hU; have HV := Aside0.mk hV; have HB := Aside0.mk (HB0.out.trans (hB.mono (by simp; omega))); clear hU hV hB; have hz : w.heap.size < w1.heap.size := (by omega); have hz1 : w.heap.size + 1 < w1.heap.size := (by omega); obtain ⟨Au, cu, rfl⟩ := Kd.V_slice HU.out; obtain ⟨Av, cv, rfl⟩ := Kd.V_slice HV.out) | (go_at_call 25; go_must (refine (Pr.spec_same.calls k false Au cu l Av cv [1] false A2 c2 l2 A3 c3 [1] true _ (Kd.C_below (Kd.V_reads' HU.out).2.2 ((Below.refl _ _).alloc (Nat.le_refl _) _)) (Kd.V_reads' HU.out).2.1 (Kd.C_below (Kd.V_reads' HV.out).2.2 ((Below.refl _ _).alloc (Nat.le_refl _) _)) (Kd.V_reads' HV.out).2.1 (Kd.C_below HR2.out (HB.out.alloc (by omega) _)) HC2.out (Kd.C_below HR3.out (HB.out.alloc (by omega) _)) HC3.out HS.out).mono ?_); rintro e w2 ⟨rfl, hB2⟩; have HB2 := Aside0.mk hB2; clear hB2))
  go_ret
  exact ⟨rfl, (HB.out.alloc (by omega) _).trans (HB2.out.mono (by simp; omega))⟩
end Go.Proofs.YtgpoplfgngiilaaGreatDoor
/- spec.Integer of any value: whole, isNumber at any sign. -/
namespace Go.Proofs.YtgpoplfgngiilaaGreatDoor
open Go.RowKit Go.Proofs.YtgpoplfgngiilaaGreatDoorW.PrintWords Go.Proofs.YtgpoplfgngiilaaGreatDoorW.PrintLast Go.Proofs.YtgpoplfgngiilaaGreatDoorW.PrintMore

set_option maxHeartbeats 1000000 in
set_option maxRecDepth 100000 in
/-- spec.Whole of a number that is negated. -/
theorem whole_neg (A : Option Addr) (c : Nat) (n : Nat) (w : World) :
    Calls Tryz.prog 20 #[.bool true, .slice A n c] w fun e w' => ∃ v, e = .returned (.agg #[.bool (decide (0 < n)), .slice A n c, v]) ∧ Kd.R (Kd.int .i64) 3 w' w.heap.size (fun _ => True) v [1] ∧ Below w.heap.size w w' := by
  have HB0 := Aside0.mk ((Below.refl w.heap.size w).alloc (Nat.le_refl _) (Obj.cells #[.bool false, .slice none 0 0, .slice none 0 0] 31))
  obtain ⟨nb, hnb⟩ : ∃ nb, decide (0 < n) = nb := ⟨_, rfl⟩
  rw [hnb]
  rcases Nat.eq_zero_or_pos n with hn | hn
  all_goals
    (try subst hn; obtain rfl : false = nb := hnb)
    (try have hb : decide ((n : Int) > 0) = true := decide_eq_true (by omega); obtain rfl : true = nb := (decide_eq_true hn).symm.trans hnb)
    go_enter Tryz.func20, Tryz.ntmps20
    go_wp2_with (first | (go_at_call 28; go_must (refine (Pr.spec_Small.calls 2 1 [1] _ small_one).mono ?_); rintro e w1 ⟨v, rfl, hR, hB⟩; have hR' := Aside0.mk hR; have hB' := Aside0.mk hB; have hs := hB.size; simp only [World.size_alloc] at hs; obtain ⟨q1, q2⟩ := bcell hB; simp only [World.size_alloc] at q1 q2; have hz : w.heap.size < w1.heap.size := (by omega); clear hR hB; obtain ⟨Av, cv, rfl, -⟩ := Kd.R_reads hR'.out) | go_in)
    have e0 : w1.cell? ⟨w.heap.size, 0, none⟩ = some (.bool false) := (q1 w.heap.size 0 (by omega)).trans (by go_simp)
    have e1 : w1.cell? ⟨w.heap.size, 1, none⟩ = some (.slice none 0 0) := (q1 w.heap.size 1 (by omega)).trans (by go_simp)
    have e2 : w1.cell? ⟨w.heap.size, 2, none⟩ = some (.slice none 0 0) := (q1 w.heap.size 2 (by omega)).trans (by go_simp)
    refine bodyPost_ret (v := .agg #[.bool _, .slice A _ c, .slice Av 1 cv]) (by simp [results, Tryz.results20, go_sem, e0, e1, e2]) rfl ⟨_, rfl, ?_, ?_⟩
    · refine R_after (N := w.heap.size + 1) hR'.out (by simp) (by simp) ?_
      intro k h1 h2
      repeat (refine hk_set (by simp; omega) ?_)
      rfl
    · have hb0 : Below w.heap.size w w1 := HB0.out.trans (hB'.out.mono (by simp))
      repeat (refine Below.setCell ?_ (by simp) _)
      exact hb0

/-- spec.Whole at any sign. -/
theorem whole_any (neg : Bool) (A : Option Addr) (c : Nat) (n : Nat) (w : World) :
    Calls Tryz.prog 20 #[.bool neg, .slice A n c] w fun e w' => ∃ v, e = .returned (.agg #[.bool (neg && decide (0 < n)), .slice A n c, v]) ∧ Kd.R (Kd.int .i64) 3 w' w.heap.size (fun _ => True) v [1] ∧ Below w.heap.size w w' := by
  cases neg with
  | false => exact whole_calls A c n w
  | true =>
    have h := whole_neg A c n w
    rwa [← Bool.true_and (decide (0 < n))] at h

set_option maxHeartbeats 4000000 in
set_option maxRecDepth 100000 in
/-- spec.IsNumber at any sign. -/
theorem isNumber_any (k : Nat) (x v r : Bool) (A0 : Option Addr) (c0 : Nat) (l0 : List Int) (A2 : Option Addr) (c2 : Nat) (l2 : List Int) (w : World)
    (hr0 : Kd.C (Kd.int .u64) w A0 l0.length l0) (hc0 : l0.length ≤ c0) (hr2 : Kd.C (Kd.int .i64) w A2 l2.length l2) (hc2 : l2.length ≤ c2) (h : Pr.spec_HasWords.f k l0 l2 = some r) :
    Calls Tryz.prog 35 #[.agg #[.bool x, .slice A0 l0.length c0], .bool v, .slice A2 l2.length c2] w fun e w' => e = .returned (.bool ((x == (v && decide (0 < l2.length))) && r)) ∧ Below w.heap.size w w' := by
  have HB0 := Aside0.mk ((Below.refl w.heap.size w).alloc (Nat.le_refl _) (Obj.cells #[.bool x, .slice A0 l0.length c0] 24))
  have HR0 := Aside0.mk (Kd.C_below hr0 HB0.out)
  have HR2 := Aside0.mk (Kd.C_below hr2 HB0.out)
  have HC0 := Aside0.mk hc0
  have HC2 := Aside0.mk hc2
  have H := Aside0.mk h
  clear hr0 hr2 hc0 hc2 h
  obtain ⟨lp, hlp⟩ : ∃ lp, decide (0 < l2.length) = lp := ⟨_, rfl⟩
  have hlp2 : decide ((l2.length : Int) > 0) = lp := by rw [← hlp]; simp
  rw [hlp]
  cases x <;> cases v <;> cases lp
  all_goals
    go_enter Tryz.func35, Tryz.ntmps35
    go_wp2_with (first | (go_at_call 55; go_must (refine (Pr.spec_HasWords.calls k A0 c0 l0 A2 c2 l2 r _ HR0.out HC0.out HR2.out HC2.out H.out).mono ?_); rintro e w1 ⟨rfl, hB⟩; have hB' := Aside0.mk hB; clear hB) | go_in)
    go_ret
    first | exact ⟨rfl, HB0.out.trans (hB'.out.mono (by simp))⟩ | exact ⟨rfl, HB0.out⟩ | exact ⟨by simp, HB0.out.trans (hB'.out.mono (by simp))⟩ | exact ⟨by simp, HB0.out⟩
end Go.Proofs.YtgpoplfgngiilaaGreatDoor
