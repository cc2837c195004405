/- Contracts on the road from the package's value to plain data. -/
import Derived.Test.YtgpoplfgngiilaaGreatDoorE2
import Derived.WalkSpells
import Derived.WalkLawsBesides
import Derived.Outline
namespace Go.Proofs.YtgpoplfgngiilaaGreatDoor
open Go.RowKit Go.Proofs.YtgpoplfgngiilaaGreatDoorW.PrintWords Go.Proofs.YtgpoplfgngiilaaGreatDoorW.PrintLast Go.Proofs.YtgpoplfgngiilaaGreatDoorW.PrintMore

theorem ta_i_108 (v : Value) (w : World) : (Instr.typeAssert (.iface 88 v) 67 108 true).run Tryz.prog w = .ok (.tuple #[.bool false, .bool false]) w := by kernel_rfl
theorem ta_i_109 (v : Value) (w : World) : (Instr.typeAssert (.iface 88 v) 67 109 true).run Tryz.prog w = .ok (.tuple #[.pointer none, .bool false]) w := by kernel_rfl
theorem ta_i_88 (v : Value) (w : World) : (Instr.typeAssert (.iface 88 v) 67 88 true).run Tryz.prog w = .ok (.tuple #[v, .bool true]) w := by kernel_rfl
theorem ta_n_2 (v : Value) (w : World) : (Instr.typeAssert (.iface 2 v) 20 2 true).run Tryz.prog w = .ok (.tuple #[v, .bool true]) w := by kernel_rfl
theorem mk_nat_1 (w : World) : (Instr.makeSlice 114 (.int .i64 1) (.int .i64 1)).run Tryz.prog w = .ok (.slice (some ⟨w.heap.size, 0, none⟩) 1 1) (w.alloc (.cells #[.int .u64 0] 167)) := by kernel_rfl
attribute [local go_sem] ta_i_108 ta_i_109 ta_i_88 ta_n_2 mk_nat_1

set_option maxHeartbeats 400000 in
set_option maxRecDepth 100000 in
theorem makeInt64 (x : Int) (w : World) :
    Calls Tryz.prog 49 #[.int .i64 x] w fun e w' => e = .returned (.iface 88 (.int .i64 x)) ∧ w = w' := by
  go_enter Tryz.func49, Tryz.ntmps49
  go_wp2
  go_ret
  exact ⟨rfl, rfl⟩

set_option maxHeartbeats 400000 in
set_option maxRecDepth 100000 in
theorem val_int64 (x : Int) (w : World) :
    Calls Tryz.prog 57 #[.iface 88 (.int .i64 x)] w fun e w' => e = .returned (.iface 2 (.int .i64 x)) ∧ w = w' := by
  go_enter Tryz.func57, Tryz.ntmps57
  go_wp2
  go_ret
  exact ⟨rfl, rfl⟩


theorem take_rd (ws : List Int) (i : Nat) (h : i < ws.length) : ws.take (i + 1) = ws.take i ++ [rd ws (i : Int)] := by
  rw [List.take_succ_eq_append_getElem h]
  simp [rd, List.getD, h]

set_option maxHeartbeats 1000000 in
set_option maxRecDepth 100000 in
/-- impl.plain: the words of an Int, in a new row. -/
theorem plain_calls (g : Nat) (A : Option Addr) (c : Nat) (ws : List Int) (w : World) (hl : ws.length < 17592186044416)
    (hc1 : w.cell? ⟨g, 1, none⟩ = some (.slice A ws.length c)) (hr : Kd.C (Kd.int .u64) w A ws.length ws) :
    Calls Tryz.prog 61 #[.pointer (some ⟨g, 0, none⟩)] w fun e w' => ∃ v, e = .returned v ∧ Kd.R (Kd.int .u64) 50 w' w.heap.size (fun _ => True) v ws ∧ Below w.heap.size w w' := by
  have HR := Aside0.mk hr
  clear hr
  go_enter Tryz.func61, Tryz.ntmps61
  go_wp2
  go_loopg [3, 9] ws.length (fun kq v3 v9 w' => ∃ i : Nat, v9 = .int .i64 i ∧ Aside0 (i ≤ ws.length ∧ kq = ws.length - i) ∧ Aside0 (Kd.R (Kd.int .u64) 50 w' w.heap.size (fun _ => True) v3 (ws.take i)) ∧ Aside0 (Below w.heap.size w w'))
  case atStart => exact ⟨0, rfl, ⟨Nat.zero_le _, rfl⟩, ⟨Kd.R_nil _ _ _ _ _⟩, ⟨Below.refl _ _⟩⟩
  case round =>
    obtain ⟨i, rfl, HI, HO, HB⟩ := hrel
    by_cases hlt : i < ws.length
    · have hb : decide ((i : Int) < (ws.length : Int)) = true := by simp; exact hlt
      obtain ⟨ad, rfl, hcell⟩ := Kd.at_int HR.out (i : Int) (by omega) (by omega)
      have hcell' : wr.cell? (ad.add i) = some (.int .u64 (rd ws (i : Int))) := by
        rw [Int.toNat_natCast] at hcell
        rw [← hcell]; exact HB.out.cell (World.block_lt_of_cell? w _ hcell)
      clear hcell
      have HT := Aside0.mk (take_rd ws i hlt)
      go_wp2_with (first | ((with_reducible refine gate_builtin (b := .append) (xs := #[.tmp 13, .tmp 15]) rfl ?_); at_builtin; refine Kd.R_append (Kd.int .u64) (w0 := w) w.heap.size rfl (.tmp 13) (.tmp 15) 22 50 (.int .u64 0) 8 rfl Tryz.underlying22 Pr.info50 rfl (by decide) (by omega) u3 (ws.take i) (rd ws (i : Int)) [.int .u64 (rd ws (i : Int))] (fun _ => True) (fun _ => False) rfl rfl ?aP (fun _ hk => hk.elim) ?aF ?aO ?aB ?aS ?aL ?_; (case aP => exact rfl); (case aB => exact (by repeat (first | (with_reducible first | exact HB.out | apply below_alloc | apply pw_below_drewN | apply below_drew1) | exact HB.out))); (case aF => exact (fun _ _ => trivial)); (case aO => exact (by (with_reducible repeat (first | apply Kd.R_alloc | apply Kd.R_drewN | apply Kd.R_drew)); exact HO.out)); (case aS => exact (below_size (by repeat (first | (with_reducible first | exact HB.out | apply below_alloc | apply pw_below_drewN | apply below_drew1) | exact HB.out)))); (case aL => have := List.length_take_le i ws; omega); intro v316 w6 ho hb hg hat; rw [← HT.out] at ho; have n0_ := Aside0.mk (hb); have n1_ := Aside0.mk (ho); clear HB; clear HO; have HB := n0_; have HO := n1_; clear n0_ n1_; clear ho hb hg hat))
      go_roundg (gk - 1)
      case measure => have := HI.out; omega
      case rel => exact ⟨i + 1, by go_num, ⟨by have := HI.out; omega⟩, ⟨by (with_reducible repeat (first | apply Kd.R_alloc | apply Kd.R_drewN | apply Kd.R_drew)); exact HO.out⟩, ⟨by repeat (first | (with_reducible first | exact HB.out | apply below_alloc | apply pw_below_drewN | apply below_drew1) | exact HB.out)⟩⟩
    · have hb : decide ((i : Int) < (ws.length : Int)) = false := by simp; omega
      obtain rfl : i = ws.length := by have := HI.out; omega
      rw [List.take_length] at HO
      clear hlt
      go_wp2
      go_ret
      exact ⟨_, rfl, HO.out, HB.out⟩

def wordsOf64 (x : Int) : List Int := if x = 0 then [] else [x]

theorem C_one {k : IntKind} {w : World} {ad : Addr} {x : Int} (h : w.cell? ad = some (.int k x)) : Kd.C (Kd.int k) w (some ad) 1 [x] := by
  refine ⟨rfl, by decide, fun _ => ⟨ad, rfl, fun j p hp => ?_⟩⟩
  cases j with
  | zero =>
    have hp' : p = x := by simpa using hp.symm
    subst hp'
    refine ⟨[.int k p], rfl, rfl, fun i u hu => ?_⟩
    cases i with
    | zero =>
      have : u = .int k p := by simpa using hu.symm
      rw [this]
      simpa [Addr.add_zero'] using h
    | succ i => simp at hu
  | succ j => simp at hp

/-- Old cells and marks read as before. -/
theorem bcell {B : Nat} {W w1 : World} (hb : Below B W w1) : (∀ b o, b < B → w1.cell? ⟨b, o, none⟩ = W.cell? ⟨b, o, none⟩) ∧ (∀ b o, b < B → w1.frozen? ⟨b, o, none⟩ = W.frozen? ⟨b, o, none⟩) :=
  ⟨fun b o h => hb.cell (p := ⟨b, o, none⟩) h, fun b o h => hb.frozen (p := ⟨b, o, none⟩) h⟩
theorem hk_alloc {W : World} {k : Nat} {X : Option Obj} (o : Obj) (hk : k < W.heap.size) (h : W.heap[k]? = X) : (W.alloc o).heap[k]? = X := (Below.heap_alloc W o k hk).trans h
theorem hk_set {W : World} {k : Nat} {X : Option Obj} {a : Addr} {u : Value} (hk : k ≠ a.block) (h : W.heap[k]? = X) : (W.setCell a u).heap[k]? = X := (Below.heap_setCell W a u k hk).trans h
/-- A row that was made from base on reads the same in a later world in which the blocks from N on have stayed. -/
theorem R_after {α : Type} {d : Kd α} {e base b' N : Nat} {ok : Nat → Prop} {w1 W2 : World} {v : Value} {xs : List α} (h : d.R e w1 base ok v xs) (hN : N ≤ base) (hb : b' ≤ base)
    (hk : ∀ k, N ≤ k → k < w1.heap.size → W2.heap[k]? = w1.heap[k]?) : d.R e W2 b' (fun _ => True) v xs :=
  Kd.R_mono (Kd.R_lower (Kd.R_step (Kd.R_bound h) (fun k ho hlt => hk k (by have := ho.2.1; omega) hlt)) hb) (fun _ _ => trivial)

set_option maxHeartbeats 1000000 in
set_option maxRecDepth 100000 in
/-- impl.number of an Int that is not below 0. -/
theorem number_calls (g : Nat) (A : Option Addr) (c : Nat) (ws : List Int) (w : World) (hl : ws.length < 17592186044416)
    (hc0 : w.cell? ⟨g, 0, none⟩ = some (.bool false)) (hc1 : w.cell? ⟨g, 1, none⟩ = some (.slice A ws.length c)) (hr : Kd.C (Kd.int .u64) w A ws.length ws) :
    Calls Tryz.prog 58 #[.pointer (some ⟨g, 0, none⟩)] w fun e w' => ∃ v, e = .returned (.agg #[.bool false, v]) ∧ Kd.R (Kd.int .u64) 50 w' w.heap.size (fun _ => True) v ws ∧ Below w.heap.size w w' := by
  have HR := Aside0.mk hr
  clear hr
  have hg : g < w.heap.size := World.block_lt_of_cell? w _ hc0
  have HL := Aside0.mk hl
  clear hl
  have HB0 := Aside0.mk ((Below.refl w.heap.size w).alloc (Nat.le_refl _) (Obj.cells #[Value.bool false, Value.slice none 0 0] 24))
  have HC1 := Aside0.mk ((HB0.out.cell (p := ⟨g, 1, none⟩) hg).trans hc1)
  go_enter Tryz.func58, Tryz.ntmps58
  go_wp2_with (first | (go_at_call 61; (refine (plain_calls g A c ws _ HL.out HC1.out (Kd.C_below HR.out HB0.out)).mono ?_); rintro e w1 ⟨v, rfl, hR, hB⟩; have hR' := Aside0.mk hR; have hB' := Aside0.mk hB; have hs := hB.size; simp only [World.size_alloc] at hs; obtain ⟨q1, q2⟩ := bcell hB; have e0 := q1 w.heap.size 0 (by simp); have e1 := q1 w.heap.size 1 (by simp); have f0 := q2 w.heap.size 0 (by simp); have f1 := q2 w.heap.size 1 (by simp); clear q1 q2 hR hB; obtain ⟨Av, cv, rfl, -⟩ := Kd.R_reads hR'.out) | go_in)
  all_goals
    refine bodyPost_ret (v := .agg #[.bool false, .slice Av ws.length cv]) (by simp [results, Tryz.results58, go_sem, e0, e1]) rfl ⟨_, rfl, ?_, ?_⟩
    · exact R_after (N := w.heap.size + 1) hR'.out (by simp) (by simp) (fun k h1 h2 => hk_set (by simp; omega) (hk_set (by simp; omega) rfl))
    · exact ((HB0.out.trans (hB'.out.mono (by simp))).setCell (Nat.le_refl _) _).setCell (Nat.le_refl _) _

set_option maxHeartbeats 1000000 in
set_option maxRecDepth 100000 in
theorem parts_int64_pos (x : Int) (w : World) (h0 : 0 < x) (h1 : x ≤ 9223372036854775807) :
    Calls Tryz.prog 40 #[.iface 88 (.int .i64 x)] w fun e w' => ∃ v u, e = .returned (.tuple #[.agg #[.bool false, v], u]) ∧ Kd.R (Kd.int .u64) 50 w' w.heap.size (fun _ => True) v [x] ∧ Below w.heap.size w w' := by
  have q0 : (((w.alloc (Obj.cells #[Value.bool false, Value.slice none 0 0] 24)).alloc (Obj.cells #[Value.bool false, Value.slice (some ⟨w.heap.size + 1 + 1, 0, none⟩) 1 1] 116)).alloc (Obj.cells #[Value.int IntKind.u64 x] 167)).cell? ⟨w.heap.size + 1, 0, none⟩ = some (.bool false) := by go_simp
  have q1 : (((w.alloc (Obj.cells #[Value.bool false, Value.slice none 0 0] 24)).alloc (Obj.cells #[Value.bool false, Value.slice (some ⟨w.heap.size + 1 + 1, 0, none⟩) 1 1] 116)).alloc (Obj.cells #[Value.int IntKind.u64 x] 167)).cell? ⟨w.heap.size + 1, 1, none⟩ = some (.slice (some ⟨w.heap.size + 1 + 1, 0, none⟩) [x].length 1) := by first | (go_simp; done) | (go_simp; rfl)
  have q2 : (((w.alloc (Obj.cells #[Value.bool false, Value.slice none 0 0] 24)).alloc (Obj.cells #[Value.bool false, Value.slice (some ⟨w.heap.size + 1 + 1, 0, none⟩) 1 1] 116)).alloc (Obj.cells #[Value.int IntKind.u64 x] 167)).cell? ⟨w.heap.size + 1 + 1, 0, none⟩ = some (.int .u64 x) := by go_simp
  have Q0 := Aside0.mk q0
  have Q1 := Aside0.mk q1
  have Q2 := Aside0.mk q2
  clear q0 q1 q2
  have HB0 := Aside0.mk ((((Below.refl w.heap.size w).alloc (Nat.le_refl _) (Obj.cells #[Value.bool false, Value.slice none 0 0] 24)).alloc (by first | (simp; done) | (simp; omega)) (Obj.cells #[Value.bool false, Value.slice (some ⟨w.heap.size + 1 + 1, 0, none⟩) 1 1] 116)).alloc (by first | (simp; done) | (simp; omega)) (Obj.cells #[Value.int IntKind.u64 x] 167))
  go_enter Tryz.func40, Tryz.ntmps40
  go_wp2_with (first | (go_at_call 58; go_must (refine (number_calls _ (some ⟨w.heap.size + 1 + 1, 0, none⟩) 1 [x] _ (by simp) Q0.out Q1.out (C_one Q2.out)).mono ?_); rintro e w1 ⟨v, rfl, hR, hB⟩; have hR' := Aside0.mk hR; have hB' := Aside0.mk hB; have hs := hB.size; simp only [World.size_alloc] at hs; obtain ⟨q1, q2⟩ := bcell hB; have e0 : w1.cell? ⟨w.heap.size, 0, none⟩ = some (.bool false) := (q1 w.heap.size 0 (by simp; omega)).trans (by go_simp); have e1 : w1.cell? ⟨w.heap.size, 1, none⟩ = some (.slice none 0 0) := (q1 w.heap.size 1 (by simp; omega)).trans (by go_simp); have f0 := q2 w.heap.size 0 (by simp; omega); have f1 := q2 w.heap.size 1 (by simp; omega); have hz : w.heap.size < w1.heap.size := (by omega); clear q1 q2 hR hB; obtain ⟨Av, cv, rfl, -⟩ := Kd.R_reads hR'.out) | go_in)
  refine bodyPost_ret (v := .tuple #[.agg #[.bool false, .slice Av 1 cv], .slice (some ⟨w1.heap.size, 0, none⟩) 1 1]) (by simp [results, Tryz.results40, go_sem, e0, e1, hz]) rfl ⟨_, _, rfl, ?_, ?_⟩
  · exact R_after (N := w.heap.size + 1) hR'.out (by simp; try omega) (by simp; try omega) (fun k h1 h2 => hk_alloc _ (by simp; omega) (hk_set (by simp; omega) (hk_set (by simp; omega) rfl)))
  · exact (((HB0.out.trans (hB'.out.mono (by simp; omega))).setCell (Nat.le_refl _) _).setCell (Nat.le_refl _) _).alloc (by simp; omega) _

theorem C_nil {k : IntKind} {w : World} (A : Option Addr) : Kd.C (Kd.int k) w A 0 [] := ⟨rfl, by decide, fun h => absurd h (by decide)⟩
set_option maxHeartbeats 1000000 in
set_option maxRecDepth 100000 in
theorem parts_int64_zero (w : World) :
    Calls Tryz.prog 40 #[.iface 88 (.int .i64 0)] w fun e w' => ∃ v u, e = .returned (.tuple #[.agg #[.bool false, v], u]) ∧ Kd.R (Kd.int .u64) 50 w' w.heap.size (fun _ => True) v [] ∧ Below w.heap.size w w' := by
  have q0 : ((w.alloc (Obj.cells #[Value.bool false, Value.slice none 0 0] 24)).alloc (Obj.cells #[Value.bool false, Value.slice none 0 0] 116)).cell? ⟨w.heap.size + 1, 0, none⟩ = some (.bool false) := by go_simp
  have q1 : ((w.alloc (Obj.cells #[Value.bool false, Value.slice none 0 0] 24)).alloc (Obj.cells #[Value.bool false, Value.slice none 0 0] 116)).cell? ⟨w.heap.size + 1, 1, none⟩ = some (.slice none ([] : List Int).length 0) := by first | (go_simp; done) | (go_simp; rfl)
  have Q0 := Aside0.mk q0
  have Q1 := Aside0.mk q1
  clear q0 q1
  have HB0 := Aside0.mk (((Below.refl w.heap.size w).alloc (Nat.le_refl _) (Obj.cells #[Value.bool false, Value.slice none 0 0] 24)).alloc (by first | (simp; done) | (simp; omega)) (Obj.cells #[Value.bool false, Value.slice none 0 0] 116))
  go_enter Tryz.func40, Tryz.ntmps40
  go_wp2_with (first | (go_at_call 58; go_must (refine (number_calls _ none 0 [] _ (by simp) Q0.out Q1.out (C_nil none)).mono ?_); rintro e w1 ⟨v, rfl, hR, hB⟩; have hR' := Aside0.mk hR; have hB' := Aside0.mk hB; have hs := hB.size; simp only [World.size_alloc] at hs; obtain ⟨q1, q2⟩ := bcell hB; have e0 : w1.cell? ⟨w.heap.size, 0, none⟩ = some (.bool false) := (q1 w.heap.size 0 (by simp; omega)).trans (by go_simp); have e1 : w1.cell? ⟨w.heap.size, 1, none⟩ = some (.slice none 0 0) := (q1 w.heap.size 1 (by simp; omega)).trans (by go_simp); have f0 := q2 w.heap.size 0 (by simp; omega); have f1 := q2 w.heap.size 1 (by simp; omega); have hz : w.heap.size < w1.heap.size := (by omega); clear q1 q2 hR hB; obtain ⟨Av, cv, rfl, -⟩ := Kd.R_reads hR'.out) | go_in)
  refine bodyPost_ret (v := .tuple #[.agg #[.bool false, .slice Av 0 cv], .slice (some ⟨w1.heap.size, 0, none⟩) 1 1]) (by simp [results, Tryz.results40, go_sem, e0, e1, hz]) rfl ⟨_, _, rfl, ?_, ?_⟩
  · exact R_after (N := w.heap.size + 1) hR'.out (by simp; try omega) (by simp; try omega) (fun k h1 h2 => hk_alloc _ (by simp; omega) (hk_set (by simp; omega) (hk_set (by simp; omega) rfl)))
  · exact (((HB0.out.trans (hB'.out.mono (by simp; omega))).setCell (Nat.le_refl _) _).setCell (Nat.le_refl _) _).alloc (by simp; omega) _
end Go.Proofs.YtgpoplfgngiilaaGreatDoor
