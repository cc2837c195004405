/- FnLiteralHexFloat, behind its card (K7 X2). -/
import Derived.Test.YtgpoplfgngiilaaGreatDoorR06
import Derived.Test.YtgpoplfgngiilaaGreatDoorR22
import Derived.Test.YtgpoplfgngiilaaGreatDoorR15
set_option linter.unusedVariables false
set_option linter.unusedSimpArgs false
namespace Go.Proofs.YtgpoplfgngiilaaGreatDoor
set_option linter.unusedVariables false
set_option linter.unusedSimpArgs false
open Go.RowKit Go.Proofs.YtgpoplfgngiilaaGreatDoorW.PrintWords Go.Proofs.YtgpoplfgngiilaaGreatDoorW.PrintLast Go.Proofs.YtgpoplfgngiilaaGreatDoorW.PrintMore

theorem ta_r_108 (v : Value) (w : World) : (Instr.typeAssert (.iface 126 v) 67 108 true).run Tryz.prog w = .ok (.tuple #[.bool false, .bool false]) w := by kernel_rfl
theorem ta_r_109 (v : Value) (w : World) : (Instr.typeAssert (.iface 126 v) 67 109 true).run Tryz.prog w = .ok (.tuple #[.pointer none, .bool false]) w := by kernel_rfl
theorem ta_r_88 (v : Value) (w : World) : (Instr.typeAssert (.iface 126 v) 67 88 true).run Tryz.prog w = .ok (.tuple #[.int .i64 0, .bool false]) w := by kernel_rfl
theorem ta_r_94 (v : Value) (w : World) : (Instr.typeAssert (.iface 126 v) 67 94 true).run Tryz.prog w = .ok (.tuple #[.agg #[.pointer none], .bool false]) w := by kernel_rfl
theorem ta_r_126 (v : Value) (w : World) : (Instr.typeAssert (.iface 126 v) 67 126 true).run Tryz.prog w = .ok (.tuple #[v, .bool true]) w := by kernel_rfl
theorem ta_q_2 (v : Value) (w : World) : (Instr.typeAssert (.iface 118 v) 20 2 true).run Tryz.prog w = .ok (.tuple #[.int .i64 0, .bool false]) w := by kernel_rfl
theorem ta_q_89 (v : Value) (w : World) : (Instr.typeAssert (.iface 118 v) 20 89 true).run Tryz.prog w = .ok (.tuple #[.pointer none, .bool false]) w := by kernel_rfl
theorem ta_q_118 (v : Value) (w : World) : (Instr.typeAssert (.iface 118 v) 20 118 true).run Tryz.prog w = .ok (.tuple #[v, .bool true]) w := by kernel_rfl
theorem me_kind_126 (v : Value) (w : World) : (method 462 126 v "Kind").run Tryz.prog w = .ok (335, v) w := by kernel_rfl
attribute [local go_sem] ta_r_108 ta_r_109 ta_r_88 ta_r_94 ta_r_126 ta_q_2 ta_q_89 ta_q_118 me_kind_126

set_option maxHeartbeats 1000000 in
set_option maxRecDepth 100000 in
/-- impl.plain of a Rat's denominator. -/
theorem plain_den (g : Nat) (A : Option Addr) (c : Nat) (ws : List Int) (w : World) (hl : ws.length < 17592186044416)
    (hc1 : w.cell? ⟨g, 3, none⟩ = some (.slice A ws.length c)) (hr : Kd.C (Kd.int .u64) w A ws.length ws) :
    Calls Tryz.prog 61 #[.pointer (some ⟨g, 2, none⟩)] w fun e w' => ∃ v, e = .returned v ∧ Kd.R (Kd.int .u64) 50 w' w.heap.size (fun _ => True) v ws ∧ Below w.heap.size w w' := by
  have HR := Aside0.mk hr
  clear hr
  go_enter Tryz.func61, Tryz.ntmps61
  go_wp2
  go_loopg [3, 9] ws.length (fun kq v3 v9 w' => ∃ i : Nat, v9 = .int .i64 i ∧ Aside0 (i ≤ ws.length ∧ kq = ws.length - i) ∧ Aside0 (Kd.R (Kd.int .u64) 50 w' w.heap.size (fun _ => True) v3 (ws.take i)) ∧ Aside0 (Below w.heap.size w w'))
  case atStart => exact ⟨0, rfl, ⟨Nat.zero_le _, rfl⟩, ⟨Kd.R_nil _ _ _ _ _⟩, ⟨Below.refl _ _⟩⟩
  case round =>
    obtain ⟨i, rfl, HI, HO, HB⟩ := hrel
    by_cases hlt : i < ws.length
    · have hb : decide ((i : Int) < (ws.length : Int)) = true := by simp; exact hlt
      obtain ⟨ad, rfl, hcell⟩ := Kd.at_int HR.out (i : Int) (by omega) (by omega)
      have hcell' : wr.cell? (ad.add i) = some (.int .u64 (rd ws (i : Int))) := by
        rw [Int.toNat_natCast] at hcell
        rw [← hcell]; exact HB.out.cell (World.block_lt_of_cell? w _ hcell)
      clear hcell
      have HT := Aside0.mk (take_rd ws i hlt)
      go_wp2_with (first | ((with_reducible refine gate_builtin (b := .append) (xs := #[.tmp 13, .tmp 15]) rfl ?_); at_builtin; refine Kd.R_append (Kd.int .u64) (w0 := w) w.heap.size rfl (.tmp 13) (.tmp 15) 22 50 (.int .u64 0) 8 rfl Tryz.underlying22 Pr.info50 rfl (by decide) (by omega) u3 (ws.take i) (rd ws (i : Int)) [.int .u64 (rd ws (i : Int))] (fun _ => True) (fun _ => False) rfl rfl ?aP (fun _ hk => hk.elim) ?aF ?aO ?aB ?aS ?aL ?_; (case aP => exact rfl); (case aB => exact (by repeat (first | (with_reducible first | exact HB.out | apply below_alloc | apply pw_below_drewN | apply below_drew1) | exact HB.out))); (case aF => exact (fun _ _ => trivial)); (case aO => exact (by (with_reducible repeat (first | apply Kd.R_alloc | apply Kd.R_drewN | apply Kd.R_drew)); exact HO.out)); (case aS => exact (below_size (by repeat (first | (with_reducible first | exact HB.out | apply below_alloc | apply pw_below_drewN | apply below_drew1) | exact HB.out)))); (case aL => have := List.length_take_le i ws; omega); intro v316 w6 ho hb hg hat; rw [← HT.out] at ho; have n0_ := Aside0.mk (hb); have n1_ := Aside0.mk (ho); clear HB; clear HO; have HB := n0_; have HO := n1_; clear n0_ n1_; clear ho hb hg hat))
      go_roundg (gk - 1)
      case measure => have := HI.out; omega
      case rel => exact ⟨i + 1, by go_num, ⟨by have := HI.out; omega⟩, ⟨by (with_reducible repeat (first | apply Kd.R_alloc | apply Kd.R_drewN | apply Kd.R_drew)); exact HO.out⟩, ⟨by repeat (first | (with_reducible first | exact HB.out | apply below_alloc | apply pw_below_drewN | apply below_drew1) | exact HB.out)⟩⟩
    · have hb : decide ((i : Int) < (ws.length : Int)) = false := by simp; omega
      obtain rfl : i = ws.length := by have := HI.out; omega
      rw [List.take_length] at HO
      clear hlt
      go_wp2
      go_ret
      exact ⟨_, rfl, HO.out, HB.out⟩

set_option maxHeartbeats 2000000 in
set_option maxRecDepth 1000000 in
theorem val_rat (z : Nat) (w : World) :
    Calls Tryz.prog 57 #[.iface 126 (.agg #[.pointer (some ⟨z, 0, none⟩)])] w fun e w' => e = .returned (.iface 118 (.pointer (some ⟨z, 0, none⟩))) ∧ Below w.heap.size w w' := by
  go_enter Tryz.func57, Tryz.ntmps57
  go_wp2
  go_ret
  exact ⟨rfl, by first | exact ((Below.refl _ _).alloc (Nat.le_refl _) _) | exact ((Below.refl _ _).alloc (Nat.le_refl _) _).setCell (Nat.le_refl _) _⟩
set_option maxHeartbeats 2000000 in
set_option maxRecDepth 1000000 in
theorem rat_num (z : Nat) (w : World) : Calls Tryz.prog 60 #[.pointer (some ⟨z, 0, none⟩)] w fun e w' => e = .returned (.pointer (some ⟨z, 0, none⟩)) ∧ w = w' := by
  go_enter Tryz.func60, Tryz.ntmps60
  go_wp2_with fail
  go_ret
  exact ⟨rfl, rfl⟩
set_option maxHeartbeats 2000000 in
set_option maxRecDepth 1000000 in
theorem rat_den (z n c : Nat) (A : Option Addr) (w : World) (h : w.cell? ⟨z, 3, none⟩ = some (.slice A n c)) (hn : 0 < n) : Calls Tryz.prog 62 #[.pointer (some ⟨z, 0, none⟩)] w fun e w' => e = .returned (.pointer (some ⟨z, 2, none⟩)) ∧ w = w' := by
  have hb : ((n : Int) == 0) = false := beq_false_of_ne (by omega)
  go_enter Tryz.func62, Tryz.ntmps62
  go_wp2_with fail
  go_ret
  exact ⟨rfl, rfl⟩

set_option maxHeartbeats 4000000 in
set_option maxRecDepth 1000000 in
theorem parts_rat (z : Nat) (A B : Option Addr) (c d : Nat) (ws ds : List Int) (w : World) (hl : ws.length < 17592186044416) (hl2 : ds.length < 17592186044416) (hl0 : 0 < ds.length)
    (hz : Rz w z (.slice A ws.length c) (.slice B ds.length d)) (hr : Kd.C (Kd.int .u64) w A ws.length ws) (hr2 : Kd.C (Kd.int .u64) w B ds.length ds) :
    Calls Tryz.prog 40 #[.iface 126 (.agg #[.pointer (some ⟨z, 0, none⟩)])] w fun e w' => ∃ v u, e = .returned (.tuple #[.agg #[.bool false, v], u]) ∧ Kd.R (Kd.int .u64) 50 w' w.heap.size (fun _ => True) v ws ∧ Kd.R (Kd.int .u64) 50 w' w.heap.size (fun _ => True) u ds ∧ Below w.heap.size w w' := by
  have HR := Aside0.mk (And.intro hr hr2)
  have HC := Aside0.mk (And.intro hz (And.intro hl (And.intro hl2 hl0)))
  have HA := Aside0.mk ((Below.refl w.heap.size w).alloc (Nat.le_refl _) (Obj.cells #[Value.bool false, Value.slice none 0 0] 24))
  have HZ := Aside0.mk hz.lt
  clear hr hr2 hz hl hl2 hl0
  go_enter Tryz.func40, Tryz.ntmps40
  go_wp2_with (first
    | (go_at_call 57; go_must (refine (val_rat z _).mono ?_); rintro e w0 ⟨rfl, hb0⟩; have HB0 := Aside0.mk (HA.out.trans (hb0.mono (by simp))); obtain ⟨q1, q2⟩ := bcell hb0; have a0 : w0.cell? ⟨w.heap.size, 0, none⟩ = some (.bool false) := (q1 w.heap.size 0 (by simp)).trans (by go_simp); have a1 : w0.cell? ⟨w.heap.size, 1, none⟩ = some (.slice none 0 0) := (q1 w.heap.size 1 (by simp)).trans (by go_simp); have a2 := q2 w.heap.size 0 (by simp); have a3 := q2 w.heap.size 1 (by simp); have ha : w.heap.size < w0.heap.size := (by have := hb0.size; simp only [World.size_alloc] at this; omega); clear q1 q2 hb0)
    | (go_at_call 60; go_must (refine (rat_num z _).mono ?_); rintro e w' ⟨rfl, rfl⟩)
    | (go_at_call 58; go_must (refine (number_calls z A c ws _ HC.out.2.1 (HB0.out.cell HZ.out |>.trans HC.out.1.c0) (HB0.out.cell HZ.out |>.trans HC.out.1.c1) (Kd.C_below HR.out.1 HB0.out)).mono ?_); rintro e w1 ⟨v, rfl, hR, hB⟩; have hR' := Aside0.mk hR; have hB' := Aside0.mk hB; have HB1 := Aside0.mk (HB0.out.trans (hB.mono HB0.out.size)); have hs := hB.size; obtain ⟨q1, q2⟩ := bcell hB; have e0 := (q1 w.heap.size 0 ha).trans a0; have e1 := (q1 w.heap.size 1 ha).trans a1; have f0 := (q2 w.heap.size 0 ha).trans a2; have f1 := (q2 w.heap.size 1 ha).trans a3; have hz : w.heap.size < w1.heap.size := (by omega); clear q1 q2 hR hB a0 a1 a2 a3; obtain ⟨Av, cv, rfl, -⟩ := Kd.R_reads hR'.out; have x3 := (HB1.out.cell (p := ⟨z, 3, none⟩) HZ.out).trans HC.out.1.c3)
    | (go_at_call 62; go_must (refine (rat_den z ds.length d B _ x3 HC.out.2.2.2).mono ?_); rintro e w' ⟨rfl, rfl⟩)
    | (go_at_call 61; go_must (refine (plain_den z B d ds _ HC.out.2.2.1 x3 (Kd.C_below HR.out.2 HB1.out)).mono ?_); rintro e w2 ⟨u, rfl, hR2, hB2⟩; have hR2' := Aside0.mk hR2; have hB2' := Aside0.mk hB2; have hs2 := hB2.size; obtain ⟨q1, q2⟩ := bcell hB2; have g0 := (q1 w.heap.size 0 hz).trans e0; have g1 := (q1 w.heap.size 1 hz).trans e1; have k0 := (q2 w.heap.size 0 hz).trans f0; have k1 := (q2 w.heap.size 1 hz).trans f1; have hz2 : w.heap.size < w2.heap.size := (by omega); clear q1 q2 hR2 hB2 e0 e1 f0 f1; obtain ⟨Au, cu, rfl, -⟩ := Kd.R_reads hR2'.out))
  refine bodyPost_ret (v := .tuple #[.agg #[.bool false, .slice Av ws.length cv], .slice Au ds.length cu]) (by simp [results, Tryz.results40, go_sem, g0, g1, hz2]) rfl ⟨_, _, rfl, ?_, ?_, ?_⟩
  · exact R_after (N := w.heap.size + 1) hR'.out (by omega) (by omega) (fun k h1 h2 => hk_set (by simp; omega) (hk_set (by simp; omega) (hB2'.out.block k h2)))
  · exact R_after (N := w.heap.size + 1) hR2'.out (by omega) (by omega) (fun k h1 h2 => hk_set (by simp; omega) (hk_set (by simp; omega) rfl))
  · exact ((HB1.out.trans (hB2'.out.mono (by omega))).setCell (Nat.le_refl _) _).setCell (Nat.le_refl _) _
end Go.Proofs.YtgpoplfgngiilaaGreatDoor
namespace Go.Proofs.YtgpoplfgngiilaaGreatDoor
set_option linter.unusedVariables false
set_option linter.unusedSimpArgs false
open Go.RowKit Go.Proofs.YtgpoplfgngiilaaGreatDoorW.PrintWords Go.Proofs.YtgpoplfgngiilaaGreatDoorW.PrintLast Go.Proofs.YtgpoplfgngiilaaGreatDoorW.PrintMore

/-- Block g is a row of these figures. -/
def Ib (w : World) (g : Nat) (ys : List Int) : Prop := w.heap[g]? = some (.cells (ys.map (Value.int .i64)).toArray 3 (0, 0))
theorem Ib.lt {w : World} {g : Nat} {ys : List Int} (h : Ib w g ys) : g < w.heap.size := (Array.getElem?_eq_some_iff.1 h).1
theorem Ib.cell {w : World} {g : Nat} {ys : List Int} (h : Ib w g ys) (i : Nat) (hi : i < ys.length) : w.cell? ⟨g, i, none⟩ = some (.int .i64 (ys[i]'hi)) := by
  rw [cell_of_row w g i _ 3 (0, 0) h]
  simp [List.getElem?_eq_getElem hi]
theorem Ib.frozen {w : World} {g : Nat} {ys : List Int} (h : Ib w g ys) (i : Nat) : w.frozen? ⟨g, i, none⟩ = false := blk_frozen h i
theorem Ib.set {w : World} {g : Nat} {ys : List Int} (h : Ib w g ys) (i : Nat) (x : Int) : Ib (w.setCell ⟨g, i, none⟩ (.int .i64 x)) g (ys.set i x) := by
  have := blk_set h i (.int .i64 x)
  unfold Ib
  rw [this, List.setIfInBounds_toArray, List.map_set]
theorem Ib.sl {w : World} {g : Nat} {ys : List Int} (h : Ib w g ys) (hl : ys.length ≤ 1000000000) : Sl w (.slice (some ⟨g, 0, none⟩) ys.length ys.length) ys := by
  refine ⟨_, _, rfl, Nat.le_refl _, Kd.C_of_reads (d := 0) ⟨rfl, by omega, fun _ => ⟨⟨g, 0, none⟩, rfl, fun j hj => ?_⟩⟩⟩
  rw [Addr.add_lit, Nat.zero_add, h.cell j hj]
  simp [List.getD, List.getElem?_eq_getElem hj]

theorem made_zero_i (c : Nat) : madeCells (Value.int .i64 0).cells (c * 1) = Array.replicate c (Value.int .i64 0) := by
  rw [Nat.mul_one]
  apply Array.ext
  · simp [madeCells]
  · intro i h1 h2
    simp [madeCells, Value.cells, Nat.mod_one]
theorem mk_i64 (n : Nat) (hc : n ≤ 1000000) (w : World) : (Instr.makeSlice 29 (.int .i64 n) (.int .i64 n)).run Tryz.prog w =
    .ok (.slice (some ⟨w.heap.size, 0, none⟩) n n) (w.alloc (.cells (Array.replicate n (Value.int .i64 0)) 3)) := by
  have hb : ((8 : Nat) : Int) * (n : Int) ≤ 281474976710656 := by omega
  have h1 := run_make (P := Tryz.prog) w 29 3 Tryz.t3 (.int .i64 0) Tryz.underlying29 (by kernel_rfl) (by kernel_rfl) .i64 .i64 (n : Int) (n : Int) (by omega) (by omega) hb (by omega)
  rw [h1, Int.toNat_natCast]
  rw [show n * Tryz.t3.size = n * 1 from rfl, made_zero_i]
theorem ib_new (c : Nat) (w : World) : Ib (w.alloc (.cells (Array.replicate c (Value.int .i64 0)) 3)) w.heap.size (List.replicate c 0) := by
  unfold Ib
  rw [heap_alloc_new]
  simp

def ShRel (w : World) (a : List Int) (n q s g kq : Nat) (v21 : Value) (w' : World) : Prop :=
  ∃ (i c d : Nat) (P : List Int), v21 = .int .i64 i ∧ Aside0 (kq = d ∧ i + d = a.length ∧ P.length = q + i ∧ c < 2 ^ s ∧ InR 65536 P ∧ valL 65536 P + 65536 ^ (q + i) * c = valL 65536 (a.take i) * 2 ^ n) ∧ Aside0 (Ib w' g (P ++ (c : Int) :: List.replicate d 0)) ∧ Aside0 (Fr (fun k => k = g) w w')

theorem sh_step {a : List Int} {n q s i c d x y : Nat} {P : List Int} (ha : InR 65536 a) (hn : n = 16 * q + s) (hs : s < 16) (hi : i + (d + 1) = a.length) (hP : P.length = q + i) (hc : c < 2 ^ s) (hR : InR 65536 P)
    (hv : valL 65536 P + 65536 ^ (q + i) * c = valL 65536 (a.take i) * 2 ^ n) (ex : rd a (i : Int) = (x : Int)) (hx : x < 65536) (hy : x * 2 ^ s = y) :
    i + 1 + d = a.length ∧ (P ++ [((c + y % 65536 : Nat) : Int)]).length = q + (i + 1) ∧ y / 65536 < 2 ^ s ∧ InR 65536 (P ++ [((c + y % 65536 : Nat) : Int)]) ∧ valL 65536 (P ++ [((c + y % 65536 : Nat) : Int)]) + 65536 ^ (q + (i + 1)) * (y / 65536) = valL 65536 (a.take (i + 1)) * 2 ^ n ∧ c + y % 65536 < 65536 ∧ y / 65536 < 65536 := by
  obtain ⟨-, s2, s3⟩ := shl_small x s hx hs
  obtain ⟨p, hp⟩ : ∃ p, p = 2 ^ s := ⟨_, rfl⟩
  have hps : 2 ^ n = 65536 ^ q * p := by rw [hn, Nat.pow_add, Nat.pow_mul, hp]
  rw [← hp] at s2 s3 hc hy ⊢
  have hdg := shl_digit (x := x) hp hs hc
  rw [hy] at s2 hdg
  have hyd : y / 65536 < p := Nat.div_lt_of_lt_mul s2
  have hdm := Nat.div_add_mod y 65536
  refine ⟨by omega, by simp; omega, hyd, snoc_R hR _ hdg, ?_, hdg, by omega⟩
  rw [valL_take a i x (by omega) ex, valL_one, hP, Nat.add_mul, ← hv, hps]
  rw [show q + (i + 1) = q + i + 1 by omega, Nat.pow_succ, Nat.pow_add]
  rw [show 65536 ^ i * x * (65536 ^ q * p) = 65536 ^ q * 65536 ^ i * (x * p) by simp only [Nat.mul_assoc, Nat.mul_left_comm, Nat.mul_comm], hy]
  exact shl_val hdm

set_option maxHeartbeats 2000000 in
set_option maxRecDepth 1000000 in
theorem shl_c {w : World} {u : Value} {a n : Nat} (hu : SN w u a) (ha : Small' a) (h0 : 0 < a) (hn : n ≤ 1000000) : Calls Tryz.prog 80 #[u, .int .i64 n] w (ResN (a * 2 ^ n) w) := by
  obtain ⟨A, cap, rfl, hcap, hC⟩ := hu
  have hne : (lits 65536 a).length ≠ 0 := fun h => by have := (lits_nil_iff 65536 a (by decide)).1 h; omega
  have hR := InR_lits 65536 (by decide) a
  have hval := valL_lits 65536 (by decide) a
  unfold Small' at ha
  unfold ResN
  generalize lits 65536 a = l at *
  obtain ⟨m, hm⟩ : ∃ m, l.length = m := ⟨_, rfl⟩
  obtain ⟨q, hq⟩ : ∃ q, q = n / 16 := ⟨_, rfl⟩
  obtain ⟨s, hs⟩ : ∃ s, s = n % 16 := ⟨_, rfl⟩
  have hns : n = 16 * q + s := by omega
  have hs16 : s < 16 := by omega
  rw [hm] at hne hcap hC ha ⊢
  have t1 : Int.tmod (n : Int) 16 = (s : Int) := by rw [hs]; exact tm_nat n 16
  have t2 : Int.tdiv (n : Int) 16 = (q : Int) := by rw [hq]; exact td_nat n 16
  have t3 : (n : Int) % 16 = (s : Int) := by omega
  have t4 : (n : Int) / 16 = (q : Int) := by omega
  have q0 : q ≤ 100000 := by omega
  have hmk := mk_i64 (q + m + 1) (by omega) w
  rw [show ((q + m + 1 : Nat) : Int) = (q : Int) + (m : Int) + 1 by omega] at hmk
  obtain ⟨ad, rfl⟩ : ∃ ad, A = some ad := by
    obtain ⟨ad, h, -⟩ := hC.2.2 (by omega)
    exact ⟨ad, h⟩
  have HC := Aside0.mk hC
  have HQ := Aside0.mk (And.intro hR (And.intro hval (And.intro hns hm)))
  have b0 : ((m : Int) == 0) = false := beq_false_of_ne (by omega)
  have HI0 := Aside0.mk (ib_new (q + m + 1) w)
  obtain ⟨W0, hW0⟩ : ∃ W0, W0 = w.alloc (.cells (Array.replicate (q + m + 1) (Value.int .i64 0)) 3) := ⟨_, rfl⟩
  have HB0 := Aside0.mk (show Below w.heap.size w W0 by rw [hW0]; exact (Below.refl _ _).alloc (Nat.le_refl _) _)
  rw [← hW0] at hmk HI0
  obtain ⟨nn, hnn⟩ : ∃ nn : Int, (n : Int) = nn := ⟨_, rfl⟩
  rw [hnn] at t1 t2 t3 t4 ⊢
  have hnn0 : 0 ≤ nn := by omega
  clear hR hval hq hs hm hC hcap hn h0 hnn hne hns hW0
  go_enter Tryz.func80, Tryz.ntmps80
  go_wp2_with fail
  go_loopg [21] m (fun kq v21 w' => ShRel W0 l n q s w.heap.size kq v21 w')
  case atStart =>
    refine ⟨0, 0, m, List.replicate q 0, rfl, ⟨rfl, by have := HQ.out.2.2.2; omega, by simp, Nat.pow_pos (by decide), (fun z hz => by obtain ⟨_, rfl⟩ := List.mem_replicate.1 hz; decide), ?_⟩, ⟨?_⟩, ⟨Fr.refl _ _⟩⟩
    · have hz : ∀ n : Nat, valL 65536 (List.replicate n 0) = 0 := fun n => by
        induction n with
        | zero => rfl
        | succ n ih => simp [List.replicate_succ, valL, ih]
      rw [hz]; simp [valL]
    · have h := HI0.out
      rw [show q + m + 1 = q + (m + 1) by omega, ← List.replicate_append_replicate, List.replicate_succ] at h
      exact h
  case round =>
    obtain ⟨i, c, d, P, rfl, HI, HN, HF⟩ := hrel
    obtain ⟨k1, k2, k3, k4, k5, k6⟩ := HI.out
    have hml := HQ.out.2.2.2
    have hmi : i + d = m := by omega
    cases d with
    | zero =>
      have hb : decide ((i : Int) < (m : Int)) = false := by simp; omega
      have HV : valL 65536 (P ++ [(c : Int)]) = a * 2 ^ n := by
        rw [valL_one, k3, k6, show i = l.length by omega, List.take_length, HQ.out.2.1]
      have hRc : InR 65536 (P ++ [(c : Int)]) := snoc_R k5 c (by have := shl_small 0 s (by decide) hs16; omega)
      have hS := Aside0.mk (HN.out.sl (by simp; omega))
      rw [show (P ++ (c : Int) :: List.replicate 0 0).length = q + m + 1 by simp; omega] at hS
      have HT := Aside0.mk (fun W h => trim_c (w := W) (v := .slice (some ⟨w.heap.size, 0, none⟩) (q + m + 1) (q + m + 1)) h hRc (by simp; omega))
      rw [HV] at HT
      clear k1 k2 k3 k4 k5 k6 hml HV hRc
      go_wp2_with (go_at_call 29; go_must (refine (HT.out _ hS.out).mono ?_); rintro e w1 ⟨v, rfl, h1, h2⟩; have H1 := Aside0.mk h1; have H2 := Aside0.mk h2; clear h1 h2)
      go_ret
      exact ⟨v, rfl, H1.out, below_step (HB0.out.trans (HF.out.toBelow HB0.out.size (fun k hk => by rw [hk]; exact Nat.le_refl _))) H2.out⟩
    | succ d =>
      have hb : decide ((i : Int) < (m : Int)) = true := by simp; omega
      obtain ⟨x, ex, hx⟩ := inR_nat HQ.out.1 i (by omega)
      obtain ⟨ad', e', hc0⟩ := Kd.at_int HC.out (i : Int) (by omega) (by omega)
      cases e'
      rw [ex, Int.toNat_natCast] at hc0
      have hlt := World.block_lt_of_cell? w _ hc0
      have hc1 := HF.out.cellv ((HB0.out.cell hlt).trans hc0) (fun h => by rw [h] at hlt; omega)
      clear hc0 hlt
      obtain ⟨y, hy⟩ : ∃ y, x * 2 ^ s = y := ⟨_, rfl⟩
      obtain ⟨z1, z2, z3, z4, z5, z6, z7⟩ := sh_step HQ.out.1 HQ.out.2.2.1 hs16 k2 k3 k4 k5 k6 ex hx hy
      obtain ⟨hsh, hyb, hpb⟩ := shl_small x s hx hs16
      rw [hy] at hsh hyb
      have hyb : (y : Int) < 2147483648 := by clear k6 z5; omega
      have d1 : Int.tmod ((y : Nat) : Int) 65536 = ((y % 65536 : Nat) : Int) := tm_nat y 65536
      have d2 : Int.tdiv ((y : Nat) : Int) 65536 = ((y / 65536 : Nat) : Int) := td_nat y 65536
      have d3 : ((y : Nat) : Int) % 65536 = ((y % 65536 : Nat) : Int) := by omega
      have d4 : ((y : Nat) : Int) / 65536 = ((y / 65536 : Nat) : Int) := by omega
      have d5 : (c : Int) + ((y % 65536 : Nat) : Int) = ((c + y % 65536 : Nat) : Int) := by omega
      have HZ := Aside0.mk (And.intro z1 (And.intro z2 (And.intro z3 (And.intro z4 z5))))
      obtain ⟨M, hM⟩ : ∃ M, y % 65536 = M := ⟨_, rfl⟩
      obtain ⟨D, hD⟩ : ∃ D, y / 65536 = D := ⟨_, rfl⟩
      rw [hM] at HZ d1 d3 d5 z6
      rw [hD] at HZ d2 d4 z7
      have hn1 := HN.out.cell (q + i) (by simp; omega)
      have hn2 := HN.out.cell (q + i + 1) (by simp; omega)
      have g1 : (P ++ (c : Int) :: List.replicate (d + 1) 0)[q + i]'(by simp; omega) = (c : Int) := by rw [List.getElem_append_right (by omega)]; simp [k3]
      have g2 : (P ++ (c : Int) :: List.replicate (d + 1) 0)[q + i + 1]'(by simp; omega) = 0 := by
        rw [List.getElem_append_right (by omega)]
        simp only [k3, show q + i + 1 - (q + i) = 0 + 1 by omega, List.getElem_cons_succ, List.getElem_replicate]
      rw [g1] at hn1
      rw [g2] at hn2
      have hf1 := HN.out.frozen (q + i)
      have hf2 := HN.out.frozen (q + i + 1)
      have HS := Aside0.mk ((HN.out.set (q + i) ((c + M : Nat) : Int)).set (q + i + 1) (D : Int))
      have el : ((P ++ (c : Int) :: List.replicate (d + 1) 0).set (q + i) ((c + M : Nat) : Int)).set (q + i + 1) (D : Int) = (P ++ [((c + M : Nat) : Int)]) ++ (D : Int) :: List.replicate d 0 := by
        have e1 := set_mid P (c : Int) ((c + M : Nat) : Int) (List.replicate (d + 1) 0)
        rw [Int.toNat_natCast, k3] at e1
        rw [e1, List.replicate_succ, show P ++ ((c + M : Nat) : Int) :: 0 :: List.replicate d 0 = (P ++ [((c + M : Nat) : Int)]) ++ (0 : Int) :: List.replicate d 0 by simp]
        have e2 := set_mid (P ++ [((c + M : Nat) : Int)]) (0 : Int) (D : Int) (List.replicate d 0)
        rw [Int.toNat_natCast] at e2
        rw [show q + i + 1 = (P ++ [((c + M : Nat) : Int)]).length by simp; omega]
        exact e2
      rw [el] at HS
      have HK := Aside0.mk k1
      have hcm : c < 65536 := by omega
      have him : i < 100000 := by omega
      obtain ⟨Z, hZ⟩ : ∃ Z : Int, ((c + M : Nat) : Int) = Z := ⟨_, rfl⟩
      have hZ0 : 0 ≤ Z ∧ Z < 65536 := by omega
      rw [hZ] at d5 HS
      have HZ2 := Aside0.mk hZ
      obtain ⟨Y, hY⟩ : ∃ Y : Int, ((y : Nat) : Int) = Y := ⟨_, rfl⟩
      have HY := Aside0.mk (show ((x * 2 ^ s : Nat) : Int) = Y by rw [hy]; exact hY)
      rw [hY] at hsh hyb d1 d2 d3 d4
      have hY0 : 0 ≤ Y := by omega
      have HSH := Aside0.mk (show wrap64 ((x : Int) * 2 ^ s) = Y by
        rw [show (x : Int) * 2 ^ s = ((x * 2 ^ s : Nat) : Int) by simp, HY.out]
        exact w64of _ (by omega) (by omega))
      clear hZ hpb hx hY
      clear k1 k2 k3 k4 k5 k6 z1 z2 z3 z4 z5 g1 g2 el hM hD hy ex hsh
      go_wp2_with fail
      go_roundg (gk - 1)
      case measure => have := HK.out; omega
      case rel =>
        rw [HSH.out, d1, d2, d5, w64of Z (by omega) (by omega), w64n_ D (by omega)]
        obtain ⟨z1, z2, z3, z4, z5⟩ := HZ.out
        have hk := HK.out
        refine ⟨i + 1, D, d, P ++ [((c + M : Nat) : Int)], by go_num, ⟨by omega, z1, z2, z3, z4, z5⟩, ⟨by rw [HZ2.out]; exact HS.out⟩, ⟨?_⟩⟩
        exact (HF.out.setCell (p := ⟨w.heap.size, q + i, none⟩) (Or.inl rfl) _).setCell (p := ⟨w.heap.size, q + i + 1, none⟩) (Or.inl rfl) _
end Go.Proofs.YtgpoplfgngiilaaGreatDoor
