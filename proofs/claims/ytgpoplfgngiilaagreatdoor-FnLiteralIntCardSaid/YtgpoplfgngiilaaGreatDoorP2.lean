/- Each of these functions answers as its plain Lean twin says (the laws' own helpers, bigall.pow). Blocks cut out of what the kit's print.sh wrote for this seat. -/
import Derived.Test.YtgpoplfgngiilaaGreatDoorP1
namespace Go.Proofs.YtgpoplfgngiilaaGreatDoor.Pr
open Go.RowKit Go.Proofs.YtgpoplfgngiilaaGreatDoorW.PrintWords Go.Proofs.YtgpoplfgngiilaaGreatDoorW.PrintLast Go.Proofs.YtgpoplfgngiilaaGreatDoorW.PrintMore
attribute [local go_sem] max2_int min2_int max_two min_two max_three min_three max_four min_four
set_option linter.unusedVariables false
set_option linter.unusedSimpArgs false

/-! ### laws_zzFits2: function 22 -/
def laws_zzFits2.f (a0_0 : Bool) (l0_1 : List Int) : Option (Bool) := if (l0_1.length : Int) > 2147483647 then (some false) else (some true)
set_option maxHeartbeats 8000000 in
set_option maxRecDepth 100000 in
theorem laws_zzFits2.calls (a0_0 : Bool) (A0_1 : Option Addr) (c0_1 : Nat) (l0_1 : List Int) (r : Bool) (w : World) (hr0_1 : Kd.C (Kd.int .u64) w A0_1 l0_1.length l0_1) (hc0_1 : l0_1.length ≤ c0_1) (h : laws_zzFits2.f a0_0 l0_1 = some r) :
    Calls Tryz.prog 22 #[.agg #[.bool a0_0, .slice A0_1 l0_1.length c0_1]] w fun e w' => e = .returned (.bool r) ∧ Below w.heap.size w w' := by
  have hu24 := Tryz.underlying24
  have HR0_1 := Aside0.mk hr0_1
  have HC0_1 := Aside0.mk hc0_1
  clear hr0_1 hc0_1
  have HB := Aside0.mk (Below.refl w.heap.size w)
  have H : (if (l0_1.length : Int) > 2147483647 then (some false) else (some true)) = some r := h
  clear h
  by_cases c2 : (l0_1.length : Int) > 2147483647
  · rw [if_pos c2] at H
    have c2b0 : decide (2147483647 < (l0_1.length : Int)) = true := decide_eq_true c2
    have c2b1 : decide (2147483647 < l0_1.length) = true := decide_eq_true (by omega)
    clear c2
    obtain rfl := Option.some.inj H
    go_enter Tryz.func22, Tryz.ntmps22
    go_wp2_with (first | ((with_reducible refine gate_dst (N := 1) rfl ?_); refine box_event ?hg (N := 1) ?hd (cs := #[.bool a0_0, .slice A0_1 l0_1.length c0_1]) (t := 24) ?hr ?_; (case hd => rfl); (case hg => rfl); (case hr => first | (go_simp; done) | (go_simp; rfl)); intro gb101 hg w3 hbox hb; have n0_ := Aside0.mk (below_step (by repeat (first | (with_reducible first | exact HB.out | apply below_alloc | apply pw_below_drewN | apply below_drew1) | exact HB.out)) hb); have n1_ := Aside0.mk (hbox); have n2_ := Aside0.mk ((by rw [hg]; exact (below_size (by repeat (first | (with_reducible first | exact HB.out | apply below_alloc | apply pw_below_drewN | apply below_drew1) | exact HB.out))) : w.heap.size ≤ gb101)); have n3_ := Aside0.mk ((by rw [hg]; exact (below_size (by repeat (first | (with_reducible first | exact HB.out | apply below_alloc | apply pw_below_drewN | apply below_drew1) | exact HB.out))) : w.heap.size ≤ gb101)); clear HB; have HB := n0_; have BK101 := n1_; have GW101 := n2_; have GE101 := n3_; clear n0_ n1_ n2_ n3_; clear hb hbox hg; have hcz4_0 : w3.cell? ⟨gb101, 0, none⟩ = some (.bool a0_0) := (blk_cell BK101.out 0).trans rfl; have hcz4_1 : w3.cell? ⟨gb101, 1, none⟩ = some (.slice A0_1 l0_1.length c0_1) := (blk_cell BK101.out 1).trans rfl; have hfz4_0 := blk_frozen BK101.out 0; have hfz4_1 := blk_frozen BK101.out 1))
    go_ret
    exact ⟨by first | rfl | (simp [errW_none, errW_some] <;> rfl) | (simp [*, errW_none, errW_some] <;> rfl), by repeat (first | (with_reducible first | exact HB.out | apply below_alloc | apply pw_below_drewN | apply below_drew1 | refine below_set ?_ GE101.out) | exact HB.out)⟩
  · rw [if_neg c2] at H
    have c2b0 : decide (2147483647 < (l0_1.length : Int)) = false := decide_eq_false c2
    have c2b1 : decide (2147483647 < l0_1.length) = false := decide_eq_false (by omega)
    clear c2
    obtain rfl := Option.some.inj H
    go_enter Tryz.func22, Tryz.ntmps22
    go_wp2_with (first | ((with_reducible refine gate_dst (N := 1) rfl ?_); refine box_event ?hg (N := 1) ?hd (cs := #[.bool a0_0, .slice A0_1 l0_1.length c0_1]) (t := 24) ?hr ?_; (case hd => rfl); (case hg => rfl); (case hr => first | (go_simp; done) | (go_simp; rfl)); intro gb101 hg w5 hbox hb; have n0_ := Aside0.mk (below_step (by repeat (first | (with_reducible first | exact HB.out | apply below_alloc | apply pw_below_drewN | apply below_drew1) | exact HB.out)) hb); have n1_ := Aside0.mk (hbox); have n2_ := Aside0.mk ((by rw [hg]; exact (below_size (by repeat (first | (with_reducible first | exact HB.out | apply below_alloc | apply pw_below_drewN | apply below_drew1) | exact HB.out))) : w.heap.size ≤ gb101)); have n3_ := Aside0.mk ((by rw [hg]; exact (below_size (by repeat (first | (with_reducible first | exact HB.out | apply below_alloc | apply pw_below_drewN | apply below_drew1) | exact HB.out))) : w.heap.size ≤ gb101)); clear HB; have HB := n0_; have BK101 := n1_; have GW101 := n2_; have GE101 := n3_; clear n0_ n1_ n2_ n3_; clear hb hbox hg; have hcz6_0 : w5.cell? ⟨gb101, 0, none⟩ = some (.bool a0_0) := (blk_cell BK101.out 0).trans rfl; have hcz6_1 : w5.cell? ⟨gb101, 1, none⟩ = some (.slice A0_1 l0_1.length c0_1) := (blk_cell BK101.out 1).trans rfl; have hfz6_0 := blk_frozen BK101.out 0; have hfz6_1 := blk_frozen BK101.out 1))
    go_ret
    exact ⟨by first | rfl | (simp [errW_none, errW_some] <;> rfl) | (simp [*, errW_none, errW_some] <;> rfl), by repeat (first | (with_reducible first | exact HB.out | apply below_alloc | apply pw_below_drewN | apply below_drew1 | refine below_set ?_ GE101.out) | exact HB.out)⟩

/-! ### laws_zzFits1: function 6 -/
def laws_zzFits1.f (a0_0 : Int) (a0_1 : Bool) (a0_2 : ByteArray) (a0_3 : Bool) (l0_4 : List Int) (l0_5 : List Int) (a0_6 : Bool) (l0_7 : List Int) (l0_8 : List Int) : Option (Bool) := if (a0_2.size : Int) > 2147483647 then (some false) else ((laws_zzFits2.f a0_3 l0_4).bind fun t103 => (if t103 = true then (if (l0_5.length : Int) > 2147483647 then (some false) else ((laws_zzFits2.f a0_6 l0_7).bind fun t104 => (if t104 = true then (if (l0_8.length : Int) > 2147483647 then (some false) else (some true)) else (some false)))) else (some false)))
set_option maxHeartbeats 8000000 in
set_option maxRecDepth 100000 in
theorem laws_zzFits1.calls (a0_0 : Int) (a0_1 : Bool) (a0_2 : ByteArray) (a0_3 : Bool) (A0_4 : Option Addr) (c0_4 : Nat) (l0_4 : List Int) (A0_5 : Option Addr) (c0_5 : Nat) (l0_5 : List Int) (a0_6 : Bool) (A0_7 : Option Addr) (c0_7 : Nat) (l0_7 : List Int) (A0_8 : Option Addr) (c0_8 : Nat) (l0_8 : List Int) (r : Bool) (w : World) (hr0_4 : Kd.C (Kd.int .u64) w A0_4 l0_4.length l0_4) (hc0_4 : l0_4.length ≤ c0_4) (hr0_5 : Kd.C (Kd.int .u64) w A0_5 l0_5.length l0_5) (hc0_5 : l0_5.length ≤ c0_5) (hr0_7 : Kd.C (Kd.int .u64) w A0_7 l0_7.length l0_7) (hc0_7 : l0_7.length ≤ c0_7) (hr0_8 : Kd.C (Kd.int .u64) w A0_8 l0_8.length l0_8) (hc0_8 : l0_8.length ≤ c0_8) (h : laws_zzFits1.f a0_0 a0_1 a0_2 a0_3 l0_4 l0_5 a0_6 l0_7 l0_8 = some r) :
    Calls Tryz.prog 6 #[.agg #[.int .i64 a0_0, .bool a0_1, .string a0_2, .bool a0_3, .slice A0_4 l0_4.length c0_4, .slice A0_5 l0_5.length c0_5, .bool a0_6, .slice A0_7 l0_7.length c0_7, .slice A0_8 l0_8.length c0_8]] w fun e w' => e = .returned (.bool r) ∧ Below w.heap.size w w' := by
  have hu26 := Tryz.underlying26
  have hu24 := Tryz.underlying24
  have HR0_4 := Aside0.mk hr0_4
  have HC0_4 := Aside0.mk hc0_4
  clear hr0_4 hc0_4
  have HR0_5 := Aside0.mk hr0_5
  have HC0_5 := Aside0.mk hc0_5
  clear hr0_5 hc0_5
  have HR0_7 := Aside0.mk hr0_7
  have HC0_7 := Aside0.mk hc0_7
  clear hr0_7 hc0_7
  have HR0_8 := Aside0.mk hr0_8
  have HC0_8 := Aside0.mk hc0_8
  clear hr0_8 hc0_8
  have HB := Aside0.mk (Below.refl w.heap.size w)
  have H : (if (a0_2.size : Int) > 2147483647 then (some false) else ((laws_zzFits2.f a0_3 l0_4).bind fun t103 => (if t103 = true then (if (l0_5.length : Int) > 2147483647 then (some false) else ((laws_zzFits2.f a0_6 l0_7).bind fun t104 => (if t104 = true then (if (l0_8.length : Int) > 2147483647 then (some false) else (some true)) else (some false)))) else (some false)))) = some r := h
  clear h
  by_cases c2 : (a0_2.size : Int) > 2147483647
  · rw [if_pos c2] at H
    have c2b0 : decide (2147483647 < (a0_2.size : Int)) = true := decide_eq_true c2
    have c2b1 : decide (2147483647 < a0_2.size) = true := decide_eq_true (by omega)
    clear c2
    obtain rfl := Option.some.inj H
    go_enter Tryz.func6, Tryz.ntmps6
    go_wp2_with (first | ((with_reducible refine gate_dst (N := 1) rfl ?_); refine box_event ?hg (N := 1) ?hd (cs := #[.int .i64 a0_0, .bool a0_1, .string a0_2, .bool a0_3, .slice A0_4 l0_4.length c0_4, .slice A0_5 l0_5.length c0_5, .bool a0_6, .slice A0_7 l0_7.length c0_7, .slice A0_8 l0_8.length c0_8]) (t := 26) ?hr ?_; (case hd => rfl); (case hg => rfl); (case hr => first | (go_simp; done) | (go_simp; rfl)); intro gb102 hg w3 hbox hb; have n0_ := Aside0.mk (below_step (by repeat (first | (with_reducible first | exact HB.out | apply below_alloc | apply pw_below_drewN | apply below_drew1) | exact HB.out)) hb); have n1_ := Aside0.mk (hbox); have n2_ := Aside0.mk ((by rw [hg]; exact (below_size (by repeat (first | (with_reducible first | exact HB.out | apply below_alloc | apply pw_below_drewN | apply below_drew1) | exact HB.out))) : w.heap.size ≤ gb102)); have n3_ := Aside0.mk ((by rw [hg]; exact (below_size (by repeat (first | (with_reducible first | exact HB.out | apply below_alloc | apply pw_below_drewN | apply below_drew1) | exact HB.out))) : w.heap.size ≤ gb102)); clear HB; have HB := n0_; have BK102 := n1_; have GW102 := n2_; have GE102 := n3_; clear n0_ n1_ n2_ n3_; clear hb hbox hg; have hcz4_0 : w3.cell? ⟨gb102, 0, none⟩ = some (.int .i64 a0_0) := (blk_cell BK102.out 0).trans rfl; have hcz4_1 : w3.cell? ⟨gb102, 1, none⟩ = some (.bool a0_1) := (blk_cell BK102.out 1).trans rfl; have hcz4_2 : w3.cell? ⟨gb102, 2, none⟩ = some (.string a0_2) := (blk_cell BK102.out 2).trans rfl; have hcz4_3 : w3.cell? ⟨gb102, 3, none⟩ = some (.bool a0_3) := (blk_cell BK102.out 3).trans rfl; have hcz4_4 : w3.cell? ⟨gb102, 4, none⟩ = some (.slice A0_4 l0_4.length c0_4) := (blk_cell BK102.out 4).trans rfl; have hcz4_5 : w3.cell? ⟨gb102, 5, none⟩ = some (.slice A0_5 l0_5.length c0_5) := (blk_cell BK102.out 5).trans rfl; have hcz4_6 : w3.cell? ⟨gb102, 6, none⟩ = some (.bool a0_6) := (blk_cell BK102.out 6).trans rfl; have hcz4_7 : w3.cell? ⟨gb102, 7, none⟩ = some (.slice A0_7 l0_7.length c0_7) := (blk_cell BK102.out 7).trans rfl; have hcz4_8 : w3.cell? ⟨gb102, 8, none⟩ = some (.slice A0_8 l0_8.length c0_8) := (blk_cell BK102.out 8).trans rfl; have hfz4_0 := blk_frozen BK102.out 0; have hfz4_1 := blk_frozen BK102.out 1; have hfz4_2 := blk_frozen BK102.out 2; have hfz4_3 := blk_frozen BK102.out 3; have hfz4_4 := blk_frozen BK102.out 4; have hfz4_5 := blk_frozen BK102.out 5; have hfz4_6 := blk_frozen BK102.out 6; have hfz4_7 := blk_frozen BK102.out 7; have hfz4_8 := blk_frozen BK102.out 8))
    go_ret
    exact ⟨by first | rfl | (simp [errW_none, errW_some] <;> rfl) | (simp [*, errW_none, errW_some] <;> rfl), by repeat (first | (with_reducible first | exact HB.out | apply below_alloc | apply pw_below_drewN | apply below_drew1 | refine below_set ?_ GE102.out) | exact HB.out)⟩
  · rw [if_neg c2] at H
    have c2b0 : decide (2147483647 < (a0_2.size : Int)) = false := decide_eq_false c2
    have c2b1 : decide (2147483647 < a0_2.size) = false := decide_eq_false (by omega)
    clear c2
    replace H := Option.bind_eq_some_iff.mp H
    obtain ⟨t103, A50, H⟩ := H
    replace H : (if t103 = true then (if (l0_5.length : Int) > 2147483647 then (some false) else ((laws_zzFits2.f a0_6 l0_7).bind fun t104 => (if t104 = true then (if (l0_8.length : Int) > 2147483647 then (some false) else (some true)) else (some false)))) else (some false)) = some r := H
    have A5 := Aside0.mk A50
    clear A50
    by_cases c6 : t103 = true
    · subst c6
      have H1 : (if (l0_5.length : Int) > 2147483647 then (some false) else ((laws_zzFits2.f a0_6 l0_7).bind fun t104 => (if t104 = true then (if (l0_8.length : Int) > 2147483647 then (some false) else (some true)) else (some false)))) = some r := by rw [if_pos rfl] at H; exact H
      clear H
      have H := H1
      clear H1
      by_cases c7 : (l0_5.length : Int) > 2147483647
      · rw [if_pos c7] at H
        have c7b0 : decide (2147483647 < (l0_5.length : Int)) = true := decide_eq_true c7
        have c7b1 : decide (2147483647 < l0_5.length) = true := decide_eq_true (by omega)
        clear c7
        obtain rfl := Option.some.inj H
        go_enter Tryz.func6, Tryz.ntmps6
        go_wp2_with (first | ((with_reducible refine gate_dst (N := 1) rfl ?_); refine box_event ?hg (N := 1) ?hd (cs := #[.int .i64 a0_0, .bool a0_1, .string a0_2, .bool a0_3, .slice A0_4 l0_4.length c0_4, .slice A0_5 l0_5.length c0_5, .bool a0_6, .slice A0_7 l0_7.length c0_7, .slice A0_8 l0_8.length c0_8]) (t := 26) ?hr ?_; (case hd => rfl); (case hg => rfl); (case hr => first | (go_simp; done) | (go_simp; rfl)); intro gb102 hg w8 hbox hb; have n0_ := Aside0.mk (below_step (by repeat (first | (with_reducible first | exact HB.out | apply below_alloc | apply pw_below_drewN | apply below_drew1) | exact HB.out)) hb); have n1_ := Aside0.mk (hbox); have n2_ := Aside0.mk ((by rw [hg]; exact (below_size (by repeat (first | (with_reducible first | exact HB.out | apply below_alloc | apply pw_below_drewN | apply below_drew1) | exact HB.out))) : w.heap.size ≤ gb102)); have n3_ := Aside0.mk ((by rw [hg]; exact (below_size (by repeat (first | (with_reducible first | exact HB.out | apply below_alloc | apply pw_below_drewN | apply below_drew1) | exact HB.out))) : w.heap.size ≤ gb102)); clear HB; have HB := n0_; have BK102 := n1_; have GW102 := n2_; have GE102 := n3_; clear n0_ n1_ n2_ n3_; clear hb hbox hg; have hcz9_0 : w8.cell? ⟨gb102, 0, none⟩ = some (.int .i64 a0_0) := (blk_cell BK102.out 0).trans rfl; have hcz9_1 : w8.cell? ⟨gb102, 1, none⟩ = some (.bool a0_1) := (blk_cell BK102.out 1).trans rfl; have hcz9_2 : w8.cell? ⟨gb102, 2, none⟩ = some (.string a0_2) := (blk_cell BK102.out 2).trans rfl; have hcz9_3 : w8.cell? ⟨gb102, 3, none⟩ = some (.bool a0_3) := (blk_cell BK102.out 3).trans rfl; have hcz9_4 : w8.cell? ⟨gb102, 4, none⟩ = some (.slice A0_4 l0_4.length c0_4) := (blk_cell BK102.out 4).trans rfl; have hcz9_5 : w8.cell? ⟨gb102, 5, none⟩ = some (.slice A0_5 l0_5.length c0_5) := (blk_cell BK102.out 5).trans rfl; have hcz9_6 : w8.cell? ⟨gb102, 6, none⟩ = some (.bool a0_6) := (blk_cell BK102.out 6).trans rfl; have hcz9_7 : w8.cell? ⟨gb102, 7, none⟩ = some (.slice A0_7 l0_7.length c0_7) := (blk_cell BK102.out 7).trans rfl; have hcz9_8 : w8.cell? ⟨gb102, 8, none⟩ = some (.slice A0_8 l0_8.length c0_8) := (blk_cell BK102.out 8).trans rfl; have hfz9_0 := blk_frozen BK102.out 0; have hfz9_1 := blk_frozen BK102.out 1; have hfz9_2 := blk_frozen BK102.out 2; have hfz9_3 := blk_frozen BK102.out 3; have hfz9_4 := blk_frozen BK102.out 4; have hfz9_5 := blk_frozen BK102.out 5; have hfz9_6 := blk_frozen BK102.out 6; have hfz9_7 := blk_frozen BK102.out 7; have hfz9_8 := blk_frozen BK102.out 8) | ((with_reducible refine gate_callee (f := 22) rfl ?_); refine goesL_ (some 9) rfl rfl Tryz.func22 (by kernel_rfl) rfl #[.agg #[.bool a0_3, .slice A0_4 l0_4.length c0_4]] rfl (by (try simp only [List.map_toArray, List.map_cons, List.map_nil]); first | done | rfl | (simp only [List.length_drop, List.length_take]; rfl)) ?_; (with_reducible refine (laws_zzFits2.calls a0_3 _ _ l0_4 true _ ?side1 ?side2 A5.out).mono ?_); (case side1 => repeat (first | exact (Kd.C_below HR0_4.out HB.out) | (with_reducible refine Kd.C_alloc ?_ _) | (with_reducible refine Kd.C_drewN ?_ _) | (with_reducible refine Kd.C_drew ?_))); (case side2 => exact HC0_4.out); rintro e w10 ⟨rfl, hb⟩; refine ⟨_, rfl, ?_⟩; have n0_ := Aside0.mk (blk_below (g := gb102) (o := .cells #[.int .i64 a0_0, .bool a0_1, .string a0_2, .bool a0_3, .slice A0_4 l0_4.length c0_4, .slice A0_5 l0_5.length c0_5, .bool a0_6, .slice A0_7 l0_7.length c0_7, .slice A0_8 l0_8.length c0_8] 26 (0, 0)) (by (with_reducible repeat (first | refine blk_drewN ?_ _ | refine blk_drew ?_ | refine blk_alloc ?_ _)); exact BK102.out) hb); have n1_ := Aside0.mk (below_step (by repeat (first | (with_reducible first | exact HB.out | apply below_alloc | apply pw_below_drewN | apply below_drew1 | refine below_set ?_ GE102.out) | exact HB.out)) hb); clear BK102; clear HB; have BK102 := n0_; have HB := n1_; clear n0_ n1_; (try clear hb); (try clear hb2); (try clear hk); (try clear hi); have hcz11_0 : w10.cell? ⟨gb102, 0, none⟩ = some (.int .i64 a0_0) := (blk_cell BK102.out 0).trans rfl; have hcz11_1 : w10.cell? ⟨gb102, 1, none⟩ = some (.bool a0_1) := (blk_cell BK102.out 1).trans rfl; have hcz11_2 : w10.cell? ⟨gb102, 2, none⟩ = some (.string a0_2) := (blk_cell BK102.out 2).trans rfl; have hcz11_3 : w10.cell? ⟨gb102, 3, none⟩ = some (.bool a0_3) := (blk_cell BK102.out 3).trans rfl; have hcz11_4 : w10.cell? ⟨gb102, 4, none⟩ = some (.slice A0_4 l0_4.length c0_4) := (blk_cell BK102.out 4).trans rfl; have hcz11_5 : w10.cell? ⟨gb102, 5, none⟩ = some (.slice A0_5 l0_5.length c0_5) := (blk_cell BK102.out 5).trans rfl; have hcz11_6 : w10.cell? ⟨gb102, 6, none⟩ = some (.bool a0_6) := (blk_cell BK102.out 6).trans rfl; have hcz11_7 : w10.cell? ⟨gb102, 7, none⟩ = some (.slice A0_7 l0_7.length c0_7) := (blk_cell BK102.out 7).trans rfl; have hcz11_8 : w10.cell? ⟨gb102, 8, none⟩ = some (.slice A0_8 l0_8.length c0_8) := (blk_cell BK102.out 8).trans rfl; have hfz11_0 := blk_frozen BK102.out 0; have hfz11_1 := blk_frozen BK102.out 1; have hfz11_2 := blk_frozen BK102.out 2; have hfz11_3 := blk_frozen BK102.out 3; have hfz11_4 := blk_frozen BK102.out 4; have hfz11_5 := blk_frozen BK102.out 5; have hfz11_6 := blk_frozen BK102.out 6; have hfz11_7 := blk_frozen BK102.out 7; have hfz11_8 := blk_frozen BK102.out 8))
        go_ret
        exact ⟨by first | rfl | (simp [errW_none, errW_some] <;> rfl) | (simp [*, errW_none, errW_some] <;> rfl), by repeat (first | (with_reducible first | exact HB.out | apply below_alloc | apply pw_below_drewN | apply below_drew1 | refine below_set ?_ GE102.out) | exact HB.out)⟩
      · rw [if_neg c7] at H
        have c7b0 : decide (2147483647 < (l0_5.length : Int)) = false := decide_eq_false c7
        have c7b1 : decide (2147483647 < l0_5.length) = false := decide_eq_false (by omega)
        clear c7
        replace H := Option.bind_eq_some_iff.mp H
        obtain ⟨t104, A120, H⟩ := H
        replace H : (if t104 = true then (if (l0_8.length : Int) > 2147483647 then (some false) else (some true)) else (some false)) = some r := H
        have A12 := Aside0.mk A120
        clear A120
        by_cases c13 : t104 = true
        · subst c13
          have H1 : (if (l0_8.length : Int) > 2147483647 then (some false) else (some true)) = some r := by rw [if_pos rfl] at H; exact H
          clear H
          have H := H1
          clear H1
          by_cases c14 : (l0_8.length : Int) > 2147483647
          · rw [if_pos c14] at H
            have c14b0 : decide (2147483647 < (l0_8.length : Int)) = true := decide_eq_true c14
            have c14b1 : decide (2147483647 < l0_8.length) = true := decide_eq_true (by omega)
            clear c14
            obtain rfl := Option.some.inj H
            go_enter Tryz.func6, Tryz.ntmps6
            go_wp2_with (first | ((with_reducible refine gate_dst (N := 1) rfl ?_); refine box_event ?hg (N := 1) ?hd (cs := #[.int .i64 a0_0, .bool a0_1, .string a0_2, .bool a0_3, .slice A0_4 l0_4.length c0_4, .slice A0_5 l0_5.length c0_5, .bool a0_6, .slice A0_7 l0_7.length c0_7, .slice A0_8 l0_8.length c0_8]) (t := 26) ?hr ?_; (case hd => rfl); (case hg => rfl); (case hr => first | (go_simp; done) | (go_simp; rfl)); intro gb102 hg w15 hbox hb; have n0_ := Aside0.mk (below_step (by repeat (first | (with_reducible first | exact HB.out | apply below_alloc | apply pw_below_drewN | apply below_drew1) | exact HB.out)) hb); have n1_ := Aside0.mk (hbox); have n2_ := Aside0.mk ((by rw [hg]; exact (below_size (by repeat (first | (with_reducible first | exact HB.out | apply below_alloc | apply pw_below_drewN | apply below_drew1) | exact HB.out))) : w.heap.size ≤ gb102)); have n3_ := Aside0.mk ((by rw [hg]; exact (below_size (by repeat (first | (with_reducible first | exact HB.out | apply below_alloc | apply pw_below_drewN | apply below_drew1) | exact HB.out))) : w.heap.size ≤ gb102)); clear HB; have HB := n0_; have BK102 := n1_; have GW102 := n2_; have GE102 := n3_; clear n0_ n1_ n2_ n3_; clear hb hbox hg; have hcz16_0 : w15.cell? ⟨gb102, 0, none⟩ = some (.int .i64 a0_0) := (blk_cell BK102.out 0).trans rfl; have hcz16_1 : w15.cell? ⟨gb102, 1, none⟩ = some (.bool a0_1) := (blk_cell BK102.out 1).trans rfl; have hcz16_2 : w15.cell? ⟨gb102, 2, none⟩ = some (.string a0_2) := (blk_cell BK102.out 2).trans rfl; have hcz16_3 : w15.cell? ⟨gb102, 3, none⟩ = some (.bool a0_3) := (blk_cell BK102.out 3).trans rfl; have hcz16_4 : w15.cell? ⟨gb102, 4, none⟩ = some (.slice A0_4 l0_4.length c0_4) := (blk_cell BK102.out 4).trans rfl; have hcz16_5 : w15.cell? ⟨gb102, 5, none⟩ = some (.slice A0_5 l0_5.length c0_5) := (blk_cell BK102.out 5).trans rfl; have hcz16_6 : w15.cell? ⟨gb102, 6, none⟩ = some (.bool a0_6) := (blk_cell BK102.out 6).trans rfl; have hcz16_7 : w15.cell? ⟨gb102, 7, none⟩ = some (.slice A0_7 l0_7.length c0_7) := (blk_cell BK102.out 7).trans rfl; have hcz16_8 : w15.cell? ⟨gb102, 8, none⟩ = some (.slice A0_8 l0_8.length c0_8) := (blk_cell BK102.out 8).trans rfl; have hfz16_0 := blk_frozen BK102.out 0; have hfz16_1 := blk_frozen BK102.out 1; have hfz16_2 := blk_frozen BK102.out 2; have hfz16_3 := blk_frozen BK102.out 3; have hfz16_4 := blk_frozen BK102.out 4; have hfz16_5 := blk_frozen BK102.out 5; have hfz16_6 := blk_frozen BK102.out 6; have hfz16_7 := blk_frozen BK102.out 7; have hfz16_8 := blk_frozen BK102.out 8) | ((with_reducible refine gate_callee (f := 22) rfl ?_); refine goesL_ (some 9) rfl rfl Tryz.func22 (by kernel_rfl) rfl #[.agg #[.bool a0_3, .slice A0_4 l0_4.length c0_4]] rfl (by (try simp only [List.map_toArray, List.map_cons, List.map_nil]); first | done | rfl | (simp only [List.length_drop, List.length_take]; rfl)) ?_; (with_reducible refine (laws_zzFits2.calls a0_3 _ _ l0_4 true _ ?side1 ?side2 A5.out).mono ?_); (case side1 => repeat (first | exact (Kd.C_below HR0_4.out HB.out) | (with_reducible refine Kd.C_alloc ?_ _) | (with_reducible refine Kd.C_drewN ?_ _) | (with_reducible refine Kd.C_drew ?_))); (case side2 => exact HC0_4.out); rintro e w17 ⟨rfl, hb⟩; refine ⟨_, rfl, ?_⟩; have n0_ := Aside0.mk (blk_below (g := gb102) (o := .cells #[.int .i64 a0_0, .bool a0_1, .string a0_2, .bool a0_3, .slice A0_4 l0_4.length c0_4, .slice A0_5 l0_5.length c0_5, .bool a0_6, .slice A0_7 l0_7.length c0_7, .slice A0_8 l0_8.length c0_8] 26 (0, 0)) (by (with_reducible repeat (first | refine blk_drewN ?_ _ | refine blk_drew ?_ | refine blk_alloc ?_ _)); exact BK102.out) hb); have n1_ := Aside0.mk (below_step (by repeat (first | (with_reducible first | exact HB.out | apply below_alloc | apply pw_below_drewN | apply below_drew1 | refine below_set ?_ GE102.out) | exact HB.out)) hb); clear BK102; clear HB; have BK102 := n0_; have HB := n1_; clear n0_ n1_; (try clear hb); (try clear hb2); (try clear hk); (try clear hi); have hcz18_0 : w17.cell? ⟨gb102, 0, none⟩ = some (.int .i64 a0_0) := (blk_cell BK102.out 0).trans rfl; have hcz18_1 : w17.cell? ⟨gb102, 1, none⟩ = some (.bool a0_1) := (blk_cell BK102.out 1).trans rfl; have hcz18_2 : w17.cell? ⟨gb102, 2, none⟩ = some (.string a0_2) := (blk_cell BK102.out 2).trans rfl; have hcz18_3 : w17.cell? ⟨gb102, 3, none⟩ = some (.bool a0_3) := (blk_cell BK102.out 3).trans rfl; have hcz18_4 : w17.cell? ⟨gb102, 4, none⟩ = some (.slice A0_4 l0_4.length c0_4) := (blk_cell BK102.out 4).trans rfl; have hcz18_5 : w17.cell? ⟨gb102, 5, none⟩ = some (.slice A0_5 l0_5.length c0_5) := (blk_cell BK102.out 5).trans rfl; have hcz18_6 : w17.cell? ⟨gb102, 6, none⟩ = some (.bool a0_6) := (blk_cell BK102.out 6).trans rfl; have hcz18_7 : w17.cell? ⟨gb102, 7, none⟩ = some (.slice A0_7 l0_7.length c0_7) := (blk_cell BK102.out 7).trans rfl; have hcz18_8 : w17.cell? ⟨gb102, 8, none⟩ = some (.slice A0_8 l0_8.length c0_8) := (blk_cell BK102.out 8).trans rfl; have hfz18_0 := blk_frozen BK102.out 0; have hfz18_1 := blk_frozen BK102.out 1; have hfz18_2 := blk_frozen BK102.out 2; have hfz18_3 := blk_frozen BK102.out 3; have hfz18_4 := blk_frozen BK102.out 4; have hfz18_5 := blk_frozen BK102.out 5; have hfz18_6 := blk_frozen BK102.out 6; have hfz18_7 := blk_frozen BK102.out 7; have hfz18_8 := blk_frozen BK102.out 8) | ((with_reducible refine gate_callee (f := 22) rfl ?_); refine goesL_ (some 17) rfl rfl Tryz.func22 (by kernel_rfl) rfl #[.agg #[.bool a0_6, .slice A0_7 l0_7.length c0_7]] rfl (by (try simp only [List.map_toArray, List.map_cons, List.map_nil]); first | done | rfl | (simp only [List.length_drop, List.length_take]; rfl)) ?_; (with_reducible refine (laws_zzFits2.calls a0_6 _ _ l0_7 true _ ?side1 ?side2 A12.out).mono ?_); (case side1 => repeat (first | exact (Kd.C_below HR0_7.out HB.out) | (with_reducible refine Kd.C_alloc ?_ _) | (with_reducible refine Kd.C_drewN ?_ _) | (with_reducible refine Kd.C_drew ?_))); (case side2 => exact HC0_7.out); rintro e w19 ⟨rfl, hb⟩; refine ⟨_, rfl, ?_⟩; have n0_ := Aside0.mk (blk_below (g := gb102) (o := .cells #[.int .i64 a0_0, .bool a0_1, .string a0_2, .bool a0_3, .slice A0_4 l0_4.length c0_4, .slice A0_5 l0_5.length c0_5, .bool a0_6, .slice A0_7 l0_7.length c0_7, .slice A0_8 l0_8.length c0_8] 26 (0, 0)) (by (with_reducible repeat (first | refine blk_drewN ?_ _ | refine blk_drew ?_ | refine blk_alloc ?_ _)); exact BK102.out) hb); have n1_ := Aside0.mk (below_step (by repeat (first | (with_reducible first | exact HB.out | apply below_alloc | apply pw_below_drewN | apply below_drew1 | refine below_set ?_ GE102.out) | exact HB.out)) hb); clear BK102; clear HB; have BK102 := n0_; have HB := n1_; clear n0_ n1_; (try clear hb); (try clear hb2); (try clear hk); (try clear hi); have hcz20_0 : w19.cell? ⟨gb102, 0, none⟩ = some (.int .i64 a0_0) := (blk_cell BK102.out 0).trans rfl; have hcz20_1 : w19.cell? ⟨gb102, 1, none⟩ = some (.bool a0_1) := (blk_cell BK102.out 1).trans rfl; have hcz20_2 : w19.cell? ⟨gb102, 2, none⟩ = some (.string a0_2) := (blk_cell BK102.out 2).trans rfl; have hcz20_3 : w19.cell? ⟨gb102, 3, none⟩ = some (.bool a0_3) := (blk_cell BK102.out 3).trans rfl; have hcz20_4 : w19.cell? ⟨gb102, 4, none⟩ = some (.slice A0_4 l0_4.length c0_4) := (blk_cell BK102.out 4).trans rfl; have hcz20_5 : w19.cell? ⟨gb102, 5, none⟩ = some (.slice A0_5 l0_5.length c0_5) := (blk_cell BK102.out 5).trans rfl; have hcz20_6 : w19.cell? ⟨gb102, 6, none⟩ = some (.bool a0_6) := (blk_cell BK102.out 6).trans rfl; have hcz20_7 : w19.cell? ⟨gb102, 7, none⟩ = some (.slice A0_7 l0_7.length c0_7) := (blk_cell BK102.out 7).trans rfl; have hcz20_8 : w19.cell? ⟨gb102, 8, none⟩ = some (.slice A0_8 l0_8.length c0_8) := (blk_cell BK102.out 8).trans rfl; have hfz20_0 := blk_frozen BK102.out 0; have hfz20_1 := blk_frozen BK102.out 1; have hfz20_2 := blk_frozen BK102.out 2; have hfz20_3 := blk_frozen BK102.out 3; have hfz20_4 := blk_frozen BK102.out 4; have hfz20_5 := blk_frozen BK102.out 5; have hfz20_6 := blk_frozen BK102.out 6; have hfz20_7 := blk_frozen BK102.out 7; have hfz20_8 := blk_frozen BK102.out 8))
            go_ret
            exact ⟨by first | rfl | (simp [errW_none, errW_some] <;> rfl) | (simp [*, errW_none, errW_some] <;> rfl), by repeat (first | (with_reducible first | exact HB.out | apply below_alloc | apply pw_below_drewN | apply below_drew1 | refine below_set ?_ GE102.out) | exact HB.out)⟩
          · rw [if_neg c14] at H
            have c14b0 : decide (2147483647 < (l0_8.length : Int)) = false := decide_eq_false c14
            have c14b1 : decide (2147483647 < l0_8.length) = false := decide_eq_false (by omega)
            clear c14
            obtain rfl := Option.some.inj H
            go_enter Tryz.func6, Tryz.ntmps6
            go_wp2_with (first | ((with_reducible refine gate_dst (N := 1) rfl ?_); refine box_event ?hg (N := 1) ?hd (cs := #[.int .i64 a0_0, .bool a0_1, .string a0_2, .bool a0_3, .slice A0_4 l0_4.length c0_4, .slice A0_5 l0_5.length c0_5, .bool a0_6, .slice A0_7 l0_7.length c0_7, .slice A0_8 l0_8.length c0_8]) (t := 26) ?hr ?_; (case hd => rfl); (case hg => rfl); (case hr => first | (go_simp; done) | (go_simp; rfl)); intro gb102 hg w21 hbox hb; have n0_ := Aside0.mk (below_step (by repeat (first | (with_reducible first | exact HB.out | apply below_alloc | apply pw_below_drewN | apply below_drew1) | exact HB.out)) hb); have n1_ := Aside0.mk (hbox); have n2_ := Aside0.mk ((by rw [hg]; exact (below_size (by repeat (first | (with_reducible first | exact HB.out | apply below_alloc | apply pw_below_drewN | apply below_drew1) | exact HB.out))) : w.heap.size ≤ gb102)); have n3_ := Aside0.mk ((by rw [hg]; exact (below_size (by repeat (first | (with_reducible first | exact HB.out | apply below_alloc | apply pw_below_drewN | apply below_drew1) | exact HB.out))) : w.heap.size ≤ gb102)); clear HB; have HB := n0_; have BK102 := n1_; have GW102 := n2_; have GE102 := n3_; clear n0_ n1_ n2_ n3_; clear hb hbox hg; have hcz22_0 : w21.cell? ⟨gb102, 0, none⟩ = some (.int .i64 a0_0) := (blk_cell BK102.out 0).trans rfl; have hcz22_1 : w21.cell? ⟨gb102, 1, none⟩ = some (.bool a0_1) := (blk_cell BK102.out 1).trans rfl; have hcz22_2 : w21.cell? ⟨gb102, 2, none⟩ = some (.string a0_2) := (blk_cell BK102.out 2).trans rfl; have hcz22_3 : w21.cell? ⟨gb102, 3, none⟩ = some (.bool a0_3) := (blk_cell BK102.out 3).trans rfl; have hcz22_4 : w21.cell? ⟨gb102, 4, none⟩ = some (.slice A0_4 l0_4.length c0_4) := (blk_cell BK102.out 4).trans rfl; have hcz22_5 : w21.cell? ⟨gb102, 5, none⟩ = some (.slice A0_5 l0_5.length c0_5) := (blk_cell BK102.out 5).trans rfl; have hcz22_6 : w21.cell? ⟨gb102, 6, none⟩ = some (.bool a0_6) := (blk_cell BK102.out 6).trans rfl; have hcz22_7 : w21.cell? ⟨gb102, 7, none⟩ = some (.slice A0_7 l0_7.length c0_7) := (blk_cell BK102.out 7).trans rfl; have hcz22_8 : w21.cell? ⟨gb102, 8, none⟩ = some (.slice A0_8 l0_8.length c0_8) := (blk_cell BK102.out 8).trans rfl; have hfz22_0 := blk_frozen BK102.out 0; have hfz22_1 := blk_frozen BK102.out 1; have hfz22_2 := blk_frozen BK102.out 2; have hfz22_3 := blk_frozen BK102.out 3; have hfz22_4 := blk_frozen BK102.out 4; have hfz22_5 := blk_frozen BK102.out 5; have hfz22_6 := blk_frozen BK102.out 6; have hfz22_7 := blk_frozen BK102.out 7; have hfz22_8 := blk_frozen BK102.out 8) | ((with_reducible refine gate_callee (f := 22) rfl ?_); refine goesL_ (some 9) rfl rfl Tryz.func22 (by kernel_rfl) rfl #[.agg #[.bool a0_3, .slice A0_4 l0_4.length c0_4]] rfl (by (try simp only [List.map_toArray, List.map_cons, List.map_nil]); first | done | rfl | (simp only [List.length_drop, List.length_take]; rfl)) ?_; (with_reducible refine (laws_zzFits2.calls a0_3 _ _ l0_4 true _ ?side1 ?side2 A5.out).mono ?_); (case side1 => repeat (first | exact (Kd.C_below HR0_4.out HB.out) | (with_reducible refine Kd.C_alloc ?_ _) | (with_reducible refine Kd.C_drewN ?_ _) | (with_reducible refine Kd.C_drew ?_))); (case side2 => exact HC0_4.out); rintro e w23 ⟨rfl, hb⟩; refine ⟨_, rfl, ?_⟩; have n0_ := Aside0.mk (blk_below (g := gb102) (o := .cells #[.int .i64 a0_0, .bool a0_1, .string a0_2, .bool a0_3, .slice A0_4 l0_4.length c0_4, .slice A0_5 l0_5.length c0_5, .bool a0_6, .slice A0_7 l0_7.length c0_7, .slice A0_8 l0_8.length c0_8] 26 (0, 0)) (by (with_reducible repeat (first | refine blk_drewN ?_ _ | refine blk_drew ?_ | refine blk_alloc ?_ _)); exact BK102.out) hb); have n1_ := Aside0.mk (below_step (by repeat (first | (with_reducible first | exact HB.out | apply below_alloc | apply pw_below_drewN | apply below_drew1 | refine below_set ?_ GE102.out) | exact HB.out)) hb); clear BK102; clear HB; have BK102 := n0_; have HB := n1_; clear n0_ n1_; (try clear hb); (try clear hb2); (try clear hk); (try clear hi); have hcz24_0 : w23.cell? ⟨gb102, 0, none⟩ = some (.int .i64 a0_0) := (blk_cell BK102.out 0).trans rfl; have hcz24_1 : w23.cell? ⟨gb102, 1, none⟩ = some (.bool a0_1) := (blk_cell BK102.out 1).trans rfl; have hcz24_2 : w23.cell? ⟨gb102, 2, none⟩ = some (.string a0_2) := (blk_cell BK102.out 2).trans rfl; have hcz24_3 : w23.cell? ⟨gb102, 3, none⟩ = some (.bool a0_3) := (blk_cell BK102.out 3).trans rfl; have hcz24_4 : w23.cell? ⟨gb102, 4, none⟩ = some (.slice A0_4 l0_4.length c0_4) := (blk_cell BK102.out 4).trans rfl; have hcz24_5 : w23.cell? ⟨gb102, 5, none⟩ = some (.slice A0_5 l0_5.length c0_5) := (blk_cell BK102.out 5).trans rfl; have hcz24_6 : w23.cell? ⟨gb102, 6, none⟩ = some (.bool a0_6) := (blk_cell BK102.out 6).trans rfl; have hcz24_7 : w23.cell? ⟨gb102, 7, none⟩ = some (.slice A0_7 l0_7.length c0_7) := (blk_cell BK102.out 7).trans rfl; have hcz24_8 : w23.cell? ⟨gb102, 8, none⟩ = some (.slice A0_8 l0_8.length c0_8) := (blk_cell BK102.out 8).trans rfl; have hfz24_0 := blk_frozen BK102.out 0; have hfz24_1 := blk_frozen BK102.out 1; have hfz24_2 := blk_frozen BK102.out 2; have hfz24_3 := blk_frozen BK102.out 3; have hfz24_4 := blk_frozen BK102.out 4; have hfz24_5 := blk_frozen BK102.out 5; have hfz24_6 := blk_frozen BK102.out 6; have hfz24_7 := blk_frozen BK102.out 7; have hfz24_8 := blk_frozen BK102.out 8) | ((with_reducible refine gate_callee (f := 22) rfl ?_); refine goesL_ (some 17) rfl rfl Tryz.func22 (by kernel_rfl) rfl #[.agg #[.bool a0_6, .slice A0_7 l0_7.length c0_7]] rfl (by (try simp only [List.map_toArray, List.map_cons, List.map_nil]); first | done | rfl | (simp only [List.length_drop, List.length_take]; rfl)) ?_; (with_reducible refine (laws_zzFits2.calls a0_6 _ _ l0_7 true _ ?side1 ?side2 A12.out).mono ?_); (case side1 => repeat (first | exact (Kd.C_below HR0_7.out HB.out) | (with_reducible refine Kd.C_alloc ?_ _) | (with_reducible refine Kd.C_drewN ?_ _) | (with_reducible refine Kd.C_drew ?_))); (case side2 => exact HC0_7.out); rintro e w25 ⟨rfl, hb⟩; refine ⟨_, rfl, ?_⟩; have n0_ := Aside0.mk (blk_below (g := gb102) (o := .cells #[.int .i64 a0_0, .bool a0_1, .string a0_2, .bool a0_3, .slice A0_4 l0_4.length c0_4, .slice A0_5 l0_5.length c0_5, .bool a0_6, .slice A0_7 l0_7.length c0_7, .slice A0_8 l0_8.length c0_8] 26 (0, 0)) (by (with_reducible repeat (first | refine blk_drewN ?_ _ | refine blk_drew ?_ | refine blk_alloc ?_ _)); exact BK102.out) hb); have n1_ := Aside0.mk (below_step (by repeat (first | (with_reducible first | exact HB.out | apply below_alloc | apply pw_below_drewN | apply below_drew1 | refine below_set ?_ GE102.out) | exact HB.out)) hb); clear BK102; clear HB; have BK102 := n0_; have HB := n1_; clear n0_ n1_; (try clear hb); (try clear hb2); (try clear hk); (try clear hi); have hcz26_0 : w25.cell? ⟨gb102, 0, none⟩ = some (.int .i64 a0_0) := (blk_cell BK102.out 0).trans rfl; have hcz26_1 : w25.cell? ⟨gb102, 1, none⟩ = some (.bool a0_1) := (blk_cell BK102.out 1).trans rfl; have hcz26_2 : w25.cell? ⟨gb102, 2, none⟩ = some (.string a0_2) := (blk_cell BK102.out 2).trans rfl; have hcz26_3 : w25.cell? ⟨gb102, 3, none⟩ = some (.bool a0_3) := (blk_cell BK102.out 3).trans rfl; have hcz26_4 : w25.cell? ⟨gb102, 4, none⟩ = some (.slice A0_4 l0_4.length c0_4) := (blk_cell BK102.out 4).trans rfl; have hcz26_5 : w25.cell? ⟨gb102, 5, none⟩ = some (.slice A0_5 l0_5.length c0_5) := (blk_cell BK102.out 5).trans rfl; have hcz26_6 : w25.cell? ⟨gb102, 6, none⟩ = some (.bool a0_6) := (blk_cell BK102.out 6).trans rfl; have hcz26_7 : w25.cell? ⟨gb102, 7, none⟩ = some (.slice A0_7 l0_7.length c0_7) := (blk_cell BK102.out 7).trans rfl; have hcz26_8 : w25.cell? ⟨gb102, 8, none⟩ = some (.slice A0_8 l0_8.length c0_8) := (blk_cell BK102.out 8).trans rfl; have hfz26_0 := blk_frozen BK102.out 0; have hfz26_1 := blk_frozen BK102.out 1; have hfz26_2 := blk_frozen BK102.out 2; have hfz26_3 := blk_frozen BK102.out 3; have hfz26_4 := blk_frozen BK102.out 4; have hfz26_5 := blk_frozen BK102.out 5; have hfz26_6 := blk_frozen BK102.out 6; have hfz26_7 := blk_frozen BK102.out 7; have hfz26_8 := blk_frozen BK102.out 8))
            go_ret
            exact ⟨by first | rfl | (simp [errW_none, errW_some] <;> rfl) | (simp [*, errW_none, errW_some] <;> rfl), by repeat (first | (with_reducible first | exact HB.out | apply below_alloc | apply pw_below_drewN | apply below_drew1 | refine below_set ?_ GE102.out) | exact HB.out)⟩
        · replace c13 := Bool.eq_false_iff.mpr c13
          subst c13
          have H1 : (some false) = some r := by rw [if_neg (show ¬ (false = true) by decide)] at H; exact H
          clear H
          have H := H1
          clear H1
          obtain rfl := Option.some.inj H
          go_enter Tryz.func6, Tryz.ntmps6
          go_wp2_with (first | ((with_reducible refine gate_dst (N := 1) rfl ?_); refine box_event ?hg (N := 1) ?hd (cs := #[.int .i64 a0_0, .bool a0_1, .string a0_2, .bool a0_3, .slice A0_4 l0_4.length c0_4, .slice A0_5 l0_5.length c0_5, .bool a0_6, .slice A0_7 l0_7.length c0_7, .slice A0_8 l0_8.length c0_8]) (t := 26) ?hr ?_; (case hd => rfl); (case hg => rfl); (case hr => first | (go_simp; done) | (go_simp; rfl)); intro gb102 hg w27 hbox hb; have n0_ := Aside0.mk (below_step (by repeat (first | (with_reducible first | exact HB.out | apply below_alloc | apply pw_below_drewN | apply below_drew1) | exact HB.out)) hb); have n1_ := Aside0.mk (hbox); have n2_ := Aside0.mk ((by rw [hg]; exact (below_size (by repeat (first | (with_reducible first | exact HB.out | apply below_alloc | apply pw_below_drewN | apply below_drew1) | exact HB.out))) : w.heap.size ≤ gb102)); have n3_ := Aside0.mk ((by rw [hg]; exact (below_size (by repeat (first | (with_reducible first | exact HB.out | apply below_alloc | apply pw_below_drewN | apply below_drew1) | exact HB.out))) : w.heap.size ≤ gb102)); clear HB; have HB := n0_; have BK102 := n1_; have GW102 := n2_; have GE102 := n3_; clear n0_ n1_ n2_ n3_; clear hb hbox hg; have hcz28_0 : w27.cell? ⟨gb102, 0, none⟩ = some (.int .i64 a0_0) := (blk_cell BK102.out 0).trans rfl; have hcz28_1 : w27.cell? ⟨gb102, 1, none⟩ = some (.bool a0_1) := (blk_cell BK102.out 1).trans rfl; have hcz28_2 : w27.cell? ⟨gb102, 2, none⟩ = some (.string a0_2) := (blk_cell BK102.out 2).trans rfl; have hcz28_3 : w27.cell? ⟨gb102, 3, none⟩ = some (.bool a0_3) := (blk_cell BK102.out 3).trans rfl; have hcz28_4 : w27.cell? ⟨gb102, 4, none⟩ = some (.slice A0_4 l0_4.length c0_4) := (blk_cell BK102.out 4).trans rfl; have hcz28_5 : w27.cell? ⟨gb102, 5, none⟩ = some (.slice A0_5 l0_5.length c0_5) := (blk_cell BK102.out 5).trans rfl; have hcz28_6 : w27.cell? ⟨gb102, 6, none⟩ = some (.bool a0_6) := (blk_cell BK102.out 6).trans rfl; have hcz28_7 : w27.cell? ⟨gb102, 7, none⟩ = some (.slice A0_7 l0_7.length c0_7) := (blk_cell BK102.out 7).trans rfl; have hcz28_8 : w27.cell? ⟨gb102, 8, none⟩ = some (.slice A0_8 l0_8.length c0_8) := (blk_cell BK102.out 8).trans rfl; have hfz28_0 := blk_frozen BK102.out 0; have hfz28_1 := blk_frozen BK102.out 1; have hfz28_2 := blk_frozen BK102.out 2; have hfz28_3 := blk_frozen BK102.out 3; have hfz28_4 := blk_frozen BK102.out 4; have hfz28_5 := blk_frozen BK102.out 5; have hfz28_6 := blk_frozen BK102.out 6; have hfz28_7 := blk_frozen BK102.out 7; have hfz28_8 := blk_frozen BK102.out 8) | ((with_reducible refine gate_callee (f := 22) rfl ?_); refine goesL_ (some 9) rfl rfl Tryz.func22 (by kernel_rfl) rfl #[.agg #[.bool a0_3, .slice A0_4 l0_4.length c0_4]] rfl (by (try simp only [List.map_toArray, List.map_cons, List.map_nil]); first | done | rfl | (simp only [List.length_drop, List.length_take]; rfl)) ?_; (with_reducible refine (laws_zzFits2.calls a0_3 _ _ l0_4 true _ ?side1 ?side2 A5.out).mono ?_); (case side1 => repeat (first | exact (Kd.C_below HR0_4.out HB.out) | (with_reducible refine Kd.C_alloc ?_ _) | (with_reducible refine Kd.C_drewN ?_ _) | (with_reducible refine Kd.C_drew ?_))); (case side2 => exact HC0_4.out); rintro e w29 ⟨rfl, hb⟩; refine ⟨_, rfl, ?_⟩; have n0_ := Aside0.mk (blk_below (g := gb102) (o := .cells #[.int .i64 a0_0, .bool a0_1, .string a0_2, .bool a0_3, .slice A0_4 l0_4.length c0_4, .slice A0_5 l0_5.length c0_5, .bool a0_6, .slice A0_7 l0_7.length c0_7, .slice A0_8 l0_8.length c0_8] 26 (0, 0)) (by (with_reducible repeat (first | refine blk_drewN ?_ _ | refine blk_drew ?_ | refine blk_alloc ?_ _)); exact BK102.out) hb); have n1_ := Aside0.mk (below_step (by repeat (first | (with_reducible first | exact HB.out | apply below_alloc | apply pw_below_drewN | apply below_drew1 | refine below_set ?_ GE102.out) | exact HB.out)) hb); clear BK102; clear HB; have BK102 := n0_; have HB := n1_; clear n0_ n1_; (try clear hb); (try clear hb2); (try clear hk); (try clear hi); have hcz30_0 : w29.cell? ⟨gb102, 0, none⟩ = some (.int .i64 a0_0) := (blk_cell BK102.out 0).trans rfl; have hcz30_1 : w29.cell? ⟨gb102, 1, none⟩ = some (.bool a0_1) := (blk_cell BK102.out 1).trans rfl; have hcz30_2 : w29.cell? ⟨gb102, 2, none⟩ = some (.string a0_2) := (blk_cell BK102.out 2).trans rfl; have hcz30_3 : w29.cell? ⟨gb102, 3, none⟩ = some (.bool a0_3) := (blk_cell BK102.out 3).trans rfl; have hcz30_4 : w29.cell? ⟨gb102, 4, none⟩ = some (.slice A0_4 l0_4.length c0_4) := (blk_cell BK102.out 4).trans rfl; have hcz30_5 : w29.cell? ⟨gb102, 5, none⟩ = some (.slice A0_5 l0_5.length c0_5) := (blk_cell BK102.out 5).trans rfl; have hcz30_6 : w29.cell? ⟨gb102, 6, none⟩ = some (.bool a0_6) := (blk_cell BK102.out 6).trans rfl; have hcz30_7 : w29.cell? ⟨gb102, 7, none⟩ = some (.slice A0_7 l0_7.length c0_7) := (blk_cell BK102.out 7).trans rfl; have hcz30_8 : w29.cell? ⟨gb102, 8, none⟩ = some (.slice A0_8 l0_8.length c0_8) := (blk_cell BK102.out 8).trans rfl; have hfz30_0 := blk_frozen BK102.out 0; have hfz30_1 := blk_frozen BK102.out 1; have hfz30_2 := blk_frozen BK102.out 2; have hfz30_3 := blk_frozen BK102.out 3; have hfz30_4 := blk_frozen BK102.out 4; have hfz30_5 := blk_frozen BK102.out 5; have hfz30_6 := blk_frozen BK102.out 6; have hfz30_7 := blk_frozen BK102.out 7; have hfz30_8 := blk_frozen BK102.out 8) | ((with_reducible refine gate_callee (f := 22) rfl ?_); refine goesL_ (some 17) rfl rfl Tryz.func22 (by kernel_rfl) rfl #[.agg #[.bool a0_6, .slice A0_7 l0_7.length c0_7]] rfl (by (try simp only [List.map_toArray, List.map_cons, List.map_nil]); first | done | rfl | (simp only [List.length_drop, List.length_take]; rfl)) ?_; (with_reducible refine (laws_zzFits2.calls a0_6 _ _ l0_7 false _ ?side1 ?side2 A12.out).mono ?_); (case side1 => repeat (first | exact (Kd.C_below HR0_7.out HB.out) | (with_reducible refine Kd.C_alloc ?_ _) | (with_reducible refine Kd.C_drewN ?_ _) | (with_reducible refine Kd.C_drew ?_))); (case side2 => exact HC0_7.out); rintro e w31 ⟨rfl, hb⟩; refine ⟨_, rfl, ?_⟩; have n0_ := Aside0.mk (blk_below (g := gb102) (o := .cells #[.int .i64 a0_0, .bool a0_1, .string a0_2, .bool a0_3, .slice A0_4 l0_4.length c0_4, .slice A0_5 l0_5.length c0_5, .bool a0_6, .slice A0_7 l0_7.length c0_7, .slice A0_8 l0_8.length c0_8] 26 (0, 0)) (by (with_reducible repeat (first | refine blk_drewN ?_ _ | refine blk_drew ?_ | refine blk_alloc ?_ _)); exact BK102.out) hb); have n1_ := Aside0.mk (below_step (by repeat (first | (with_reducible first | exact HB.out | apply below_alloc | apply pw_below_drewN | apply below_drew1 | refine below_set ?_ GE102.out) | exact HB.out)) hb); clear BK102; clear HB; have BK102 := n0_; have HB := n1_; clear n0_ n1_; (try clear hb); (try clear hb2); (try clear hk); (try clear hi)))
          go_ret
          exact ⟨by first | rfl | (simp [errW_none, errW_some] <;> rfl) | (simp [*, errW_none, errW_some] <;> rfl), by repeat (first | (with_reducible first | exact HB.out | apply below_alloc | apply pw_below_drewN | apply below_drew1 | refine below_set ?_ GE102.out) | exact HB.out)⟩
    · replace c6 := Bool.eq_false_iff.mpr c6
      subst c6
      have H1 : (some false) = some r := by rw [if_neg (show ¬ (false = true) by decide)] at H; exact H
      clear H
      have H := H1
      clear H1
      obtain rfl := Option.some.inj H
      go_enter Tryz.func6, Tryz.ntmps6
      go_wp2_with (first | ((with_reducible refine gate_dst (N := 1) rfl ?_); refine box_event ?hg (N := 1) ?hd (cs := #[.int .i64 a0_0, .bool a0_1, .string a0_2, .bool a0_3, .slice A0_4 l0_4.length c0_4, .slice A0_5 l0_5.length c0_5, .bool a0_6, .slice A0_7 l0_7.length c0_7, .slice A0_8 l0_8.length c0_8]) (t := 26) ?hr ?_; (case hd => rfl); (case hg => rfl); (case hr => first | (go_simp; done) | (go_simp; rfl)); intro gb102 hg w32 hbox hb; have n0_ := Aside0.mk (below_step (by repeat (first | (with_reducible first | exact HB.out | apply below_alloc | apply pw_below_drewN | apply below_drew1) | exact HB.out)) hb); have n1_ := Aside0.mk (hbox); have n2_ := Aside0.mk ((by rw [hg]; exact (below_size (by repeat (first | (with_reducible first | exact HB.out | apply below_alloc | apply pw_below_drewN | apply below_drew1) | exact HB.out))) : w.heap.size ≤ gb102)); have n3_ := Aside0.mk ((by rw [hg]; exact (below_size (by repeat (first | (with_reducible first | exact HB.out | apply below_alloc | apply pw_below_drewN | apply below_drew1) | exact HB.out))) : w.heap.size ≤ gb102)); clear HB; have HB := n0_; have BK102 := n1_; have GW102 := n2_; have GE102 := n3_; clear n0_ n1_ n2_ n3_; clear hb hbox hg; have hcz33_0 : w32.cell? ⟨gb102, 0, none⟩ = some (.int .i64 a0_0) := (blk_cell BK102.out 0).trans rfl; have hcz33_1 : w32.cell? ⟨gb102, 1, none⟩ = some (.bool a0_1) := (blk_cell BK102.out 1).trans rfl; have hcz33_2 : w32.cell? ⟨gb102, 2, none⟩ = some (.string a0_2) := (blk_cell BK102.out 2).trans rfl; have hcz33_3 : w32.cell? ⟨gb102, 3, none⟩ = some (.bool a0_3) := (blk_cell BK102.out 3).trans rfl; have hcz33_4 : w32.cell? ⟨gb102, 4, none⟩ = some (.slice A0_4 l0_4.length c0_4) := (blk_cell BK102.out 4).trans rfl; have hcz33_5 : w32.cell? ⟨gb102, 5, none⟩ = some (.slice A0_5 l0_5.length c0_5) := (blk_cell BK102.out 5).trans rfl; have hcz33_6 : w32.cell? ⟨gb102, 6, none⟩ = some (.bool a0_6) := (blk_cell BK102.out 6).trans rfl; have hcz33_7 : w32.cell? ⟨gb102, 7, none⟩ = some (.slice A0_7 l0_7.length c0_7) := (blk_cell BK102.out 7).trans rfl; have hcz33_8 : w32.cell? ⟨gb102, 8, none⟩ = some (.slice A0_8 l0_8.length c0_8) := (blk_cell BK102.out 8).trans rfl; have hfz33_0 := blk_frozen BK102.out 0; have hfz33_1 := blk_frozen BK102.out 1; have hfz33_2 := blk_frozen BK102.out 2; have hfz33_3 := blk_frozen BK102.out 3; have hfz33_4 := blk_frozen BK102.out 4; have hfz33_5 := blk_frozen BK102.out 5; have hfz33_6 := blk_frozen BK102.out 6; have hfz33_7 := blk_frozen BK102.out 7; have hfz33_8 := blk_frozen BK102.out 8) | ((with_reducible refine gate_callee (f := 22) rfl ?_); refine goesL_ (some 9) rfl rfl Tryz.func22 (by kernel_rfl) rfl #[.agg #[.bool a0_3, .slice A0_4 l0_4.length c0_4]] rfl (by (try simp only [List.map_toArray, List.map_cons, List.map_nil]); first | done | rfl | (simp only [List.length_drop, List.length_take]; rfl)) ?_; (with_reducible refine (laws_zzFits2.calls a0_3 _ _ l0_4 false _ ?side1 ?side2 A5.out).mono ?_); (case side1 => repeat (first | exact (Kd.C_below HR0_4.out HB.out) | (with_reducible refine Kd.C_alloc ?_ _) | (with_reducible refine Kd.C_drewN ?_ _) | (with_reducible refine Kd.C_drew ?_))); (case side2 => exact HC0_4.out); rintro e w34 ⟨rfl, hb⟩; refine ⟨_, rfl, ?_⟩; have n0_ := Aside0.mk (blk_below (g := gb102) (o := .cells #[.int .i64 a0_0, .bool a0_1, .string a0_2, .bool a0_3, .slice A0_4 l0_4.length c0_4, .slice A0_5 l0_5.length c0_5, .bool a0_6, .slice A0_7 l0_7.length c0_7, .slice A0_8 l0_8.length c0_8] 26 (0, 0)) (by (with_reducible repeat (first | refine blk_drewN ?_ _ | refine blk_drew ?_ | refine blk_alloc ?_ _)); exact BK102.out) hb); have n1_ := Aside0.mk (below_step (by repeat (first | (with_reducible first | exact HB.out | apply below_alloc | apply pw_below_drewN | apply below_drew1 | refine below_set ?_ GE102.out) | exact HB.out)) hb); clear BK102; clear HB; have BK102 := n0_; have HB := n1_; clear n0_ n1_; (try clear hb); (try clear hb2); (try clear hk); (try clear hi)))
      go_ret
      exact ⟨by first | rfl | (simp [errW_none, errW_some] <;> rfl) | (simp [*, errW_none, errW_some] <;> rfl), by repeat (first | (with_reducible first | exact HB.out | apply below_alloc | apply pw_below_drewN | apply below_drew1 | refine below_set ?_ GE102.out) | exact HB.out)⟩

/-! ### laws_underscored: function 8 -/
def laws_underscored.f (a0 : ByteArray) (a1 : Bool) : Option (ByteArray) := if a1 = true then (if (a0.size : Int) < 2 then (some a0) else (if 0 ≤ 1 then (if 1 ≤ (a0.size : Int) then (if (a0.extract 0 1).size + 1 ≤ 9223372036854775807 then (if ((a0.extract 0 1) ++ (⟨#[95]⟩ : ByteArray)).size + (a0.extract 1 a0.size).size ≤ 9223372036854775807 then (some (((a0.extract 0 1) ++ (⟨#[95]⟩ : ByteArray)) ++ (a0.extract 1 a0.size))) else (none)) else (none)) else (none)) else (none))) else (some a0)
set_option maxHeartbeats 8000000 in
set_option maxRecDepth 100000 in
theorem laws_underscored.calls (a0 : ByteArray) (a1 : Bool) (r : ByteArray) (w : World) (h : laws_underscored.f a0 a1 = some r) :
    Calls Tryz.prog 8 #[.string a0, .bool a1] w fun e w' => e = .returned (.string r) ∧ Drawn0 w w' := by
  have H : (if a1 = true then (if (a0.size : Int) < 2 then (some a0) else (if 0 ≤ 1 then (if 1 ≤ (a0.size : Int) then (if (a0.extract 0 1).size + 1 ≤ 9223372036854775807 then (if ((a0.extract 0 1) ++ (⟨#[95]⟩ : ByteArray)).size + (a0.extract 1 a0.size).size ≤ 9223372036854775807 then (some (((a0.extract 0 1) ++ (⟨#[95]⟩ : ByteArray)) ++ (a0.extract 1 a0.size))) else (none)) else (none)) else (none)) else (none))) else (some a0)) = some r := h
  clear h
  by_cases c3 : a1 = true
  · subst c3
    have H1 : (if (a0.size : Int) < 2 then (some a0) else (if 0 ≤ 1 then (if 1 ≤ (a0.size : Int) then (if (a0.extract 0 1).size + 1 ≤ 9223372036854775807 then (if ((a0.extract 0 1) ++ (⟨#[95]⟩ : ByteArray)).size + (a0.extract 1 a0.size).size ≤ 9223372036854775807 then (some (((a0.extract 0 1) ++ (⟨#[95]⟩ : ByteArray)) ++ (a0.extract 1 a0.size))) else (none)) else (none)) else (none)) else (none))) = some r := by rw [if_pos rfl] at H; exact H
    clear H
    have H := H1
    clear H1
    by_cases c4 : (a0.size : Int) < 2
    · rw [if_pos c4] at H
      have c4b0 : decide ((a0.size : Int) < 2) = true := decide_eq_true c4
      have c4b1 : decide (a0.size < 2) = true := decide_eq_true (by omega)
      clear c4
      obtain rfl := Option.some.inj H
      go_enter Tryz.func8, Tryz.ntmps8
      go_wp2
      repeat (go_quiet (fail); try go_wp2)
      go_ret
      exact ⟨by first | rfl | (simp; done) | (simp [*]; done), by repeat (first | exact Drawn0.refl _ | apply Drawn0.step)⟩
    · rw [if_neg c4] at H
      have c4b0 : decide ((a0.size : Int) < 2) = false := decide_eq_false c4
      have c4b1 : decide (a0.size < 2) = false := decide_eq_false (by omega)
      clear c4
      by_cases c5 : 0 ≤ 1
      · rw [if_pos c5] at H
        have c5b0 := eq_true c5
        have c5b1 : decide (0 ≤ 1) = true := decide_eq_true c5
        clear c5
        by_cases c6 : 1 ≤ (a0.size : Int)
        · rw [if_pos c6] at H
          have c6b0 := eq_true c6
          have c6b1 : decide (1 ≤ (a0.size : Int)) = true := decide_eq_true c6
          clear c6
          by_cases c7 : (a0.extract 0 1).size + 1 ≤ 9223372036854775807
          · rw [if_pos c7] at H
            have c7b0 := eq_true c7
            have c7b1 : decide ((a0.extract 0 1).size + 1 ≤ 9223372036854775807) = true := decide_eq_true c7
            try have c7b2 : (9223372036854775807 < (a0.extract 0 1).size + 1) = False := eq_false (Nat.not_lt.2 c7)
            have c8b0 := eq_true (of_decide_eq_true (by first | (with_reducible assumption) | assumption) : 1 ≤ (a0.size : Int))
            by_cases c9 : ((a0.extract 0 1) ++ (⟨#[95]⟩ : ByteArray)).size + (a0.extract 1 a0.size).size ≤ 9223372036854775807
            · rw [if_pos c9] at H
              have c9b0 := eq_true c9
              have c9b1 : decide (((a0.extract 0 1) ++ (⟨#[95]⟩ : ByteArray)).size + (a0.extract 1 a0.size).size ≤ 9223372036854775807) = true := decide_eq_true c9
              try have c9b2 : (9223372036854775807 < ((a0.extract 0 1) ++ (⟨#[95]⟩ : ByteArray)).size + (a0.extract 1 a0.size).size) = False := eq_false (Nat.not_lt.2 c9)
              obtain rfl := Option.some.inj H
              go_enter Tryz.func8, Tryz.ntmps8
              go_wp2
              repeat (go_quiet (fail); try go_wp2)
              go_ret
              exact ⟨by first | rfl | (simp; done) | (simp [*]; done), by repeat (first | exact Drawn0.refl _ | apply Drawn0.step)⟩
            · rw [if_neg c9] at H
              exact absurd H (by simp)
          · rw [if_neg c7] at H
            exact absurd H (by simp)
        · rw [if_neg c6] at H
          exact absurd H (by simp)
      · rw [if_neg c5] at H
        exact absurd H (by simp)
  · replace c3 := Bool.eq_false_iff.mpr c3
    subst c3
    have H1 : (some a0) = some r := by rw [if_neg (show ¬ (false = true) by decide)] at H; exact H
    clear H
    have H := H1
    clear H1
    obtain rfl := Option.some.inj H
    go_enter Tryz.func8, Tryz.ntmps8
    go_wp2
    repeat (go_quiet (fail); try go_wp2)
    go_ret
    exact ⟨by first | rfl | (simp; done) | (simp [*]; done), by repeat (first | exact Drawn0.refl _ | apply Drawn0.step)⟩


/-! ### bigall_pow: function 151 -/
def bigall_pow.l0 : Nat → Int → Int → Int → Option (Int)
  | 0, _, _, _ => none
  | k + 1, x0, x1, x4 => if x1 > 0 then (if (Go.bits .and .i64 x1 1) = 0 then (bigall_pow.l0 k (IntKind.u64.wrap (x0 * x0)) (x1 / 2) x4) else (bigall_pow.l0 k (IntKind.u64.wrap (x0 * x0)) (x1 / 2) (IntKind.u64.wrap (x4 * x0)))) else (some x4)
def bigall_pow.f (k : Nat) (a0 : Int) (a1 : Int) : Option (Int) := bigall_pow.l0 k a0 a1 1
theorem bigall_pow.mono_l : ∀ k, (∀ y0 y1 y2, LeO (bigall_pow.l0 k y0 y1 y2) (bigall_pow.l0 (k + 1) y0 y1 y2))
  | 0 => fun _ _ _ r h => by simp [bigall_pow.l0] at h
  | k + 1 => by
    have ih0 := bigall_pow.mono_l k
    · intro y0 y1 y2
      unfold bigall_pow.l0
      repeat' first
      | (with_reducible exact ih0 _ _ _)
      | (with_reducible exact LeO.refl _)
      | (with_reducible exact LeO.none _)
      | (with_reducible refine LeO.ite ?_ ?_)
      | (with_reducible refine LeO.bind ?_ (fun _ => ?_))
      | exact ih0 _ _ _
      | exact LeO.none _
      | refine LeO.ite ?_ ?_
      | refine LeO.bind ?_ (fun _ => ?_)
theorem bigall_pow.mono : ∀ a0 a1 k, LeO (bigall_pow.f k a0 a1) (bigall_pow.f (k + 1) a0 a1) := by
  intro a0 a1 k
  have ih0 := bigall_pow.mono_l k
  unfold bigall_pow.f
  repeat' first
      | (with_reducible exact ih0 _ _ _)
      | (with_reducible exact LeO.refl _)
      | (with_reducible exact LeO.none _)
      | (with_reducible refine LeO.ite ?_ ?_)
      | (with_reducible refine LeO.bind ?_ (fun _ => ?_))
      | exact ih0 _ _ _
      | exact LeO.none _
      | refine LeO.ite ?_ ?_
      | refine LeO.bind ?_ (fun _ => ?_)
set_option maxHeartbeats 8000000 in
set_option maxRecDepth 100000 in
theorem bigall_pow.calls (k : Nat) (a0 : Int) (a1 : Int) (r : Int) (w : World) (h : bigall_pow.f k a0 a1 = some r) :
    Calls Tryz.prog 151 #[.int .u64 a0, .int .i64 a1] w fun e w' => e = .returned (.int .u64 r) ∧ Drawn0 w w' := by
  have H : (bigall_pow.l0 k a0 a1 1) = some r := h
  clear h
  have H' := Aside0.mk H
  clear H
  go_enter Tryz.func151, Tryz.ntmps151
  go_wp2
  go_loopg [0, 1, 4] k (fun kq v0 v1 v4 w' => ∃ (x0_1 : Int) (x1_1 : Int) (x4_1 : Int), v0 = .int .u64 x0_1 ∧ v1 = .int .i64 x1_1 ∧ v4 = .int .u64 x4_1 ∧ Aside0 (bigall_pow.l0 kq x0_1 x1_1 x4_1 = some r) ∧ Aside0 (kq ≤ k) ∧ Drawn0 w w')
  case atStart => exact ⟨(a0), (a1), (1), (by first | rfl | (simp; done) | (simp [*]; done)), (by first | rfl | (simp; done) | (simp [*]; done)), (by first | rfl | (simp; done) | (simp [*]; done)), H', ⟨Nat.le_refl _⟩, by repeat (first | exact Drawn0.refl _ | apply Drawn0.step)⟩
  case round =>
    clear H'
    try clear c1
    try clear p2
    obtain ⟨x0_1, x1_1, x4_1, rfl, rfl, rfl, HA, HK1, ⟨m1, rfl⟩⟩ := hrel
    cases gk with
    | zero => exact absurd HA.out (by simp [bigall_pow.l0])
    | succ k1 =>
      have H := HA.out
      clear HA
      simp only [bigall_pow.l0] at H
      by_cases c3 : x1_1 > 0
      · rw [if_pos c3] at H
        have c3b0 : decide (0 < x1_1) = true := decide_eq_true c3
        clear c3
        by_cases c4 : (Go.bits .and .i64 x1_1 1) = 0
        · rw [if_pos c4] at H
          have c4b0 : ((Go.bits .and .i64 x1_1 1) == 0) = true := beq_iff_eq.mpr c4
          have c4b1 : ((Go.bits .and .i64 x1_1 1) != 0) = false := bne_eq_false_iff_eq.mpr c4
          clear c4
          have H' := Aside0.mk H
          clear H
          go_wp2
          go_roundg k1
          case measure => have := HK1.out; omega
          case rel => exact ⟨(IntKind.u64.wrap (x0_1 * x0_1)), (x1_1 / 2), (x4_1), (by first | rfl | (simp; done) | (simp [*]; done)), (by first | rfl | (simp; done) | (simp [*]; done)), (by first | rfl | (simp; done) | (simp [*]; done)), H', ⟨by have := HK1.out; omega⟩, by repeat (first | exact Drawn0.refl _ | apply Drawn0.step)⟩
        · rw [if_neg c4] at H
          have c4b0 : ((Go.bits .and .i64 x1_1 1) == 0) = false := beq_eq_false_iff_ne.mpr c4
          have c4b1 : ((Go.bits .and .i64 x1_1 1) != 0) = true := bne_iff_ne.mpr c4
          have H' := Aside0.mk H
          clear H
          go_wp2
          go_roundg k1
          case measure => have := HK1.out; omega
          case rel => exact ⟨(IntKind.u64.wrap (x0_1 * x0_1)), (x1_1 / 2), (IntKind.u64.wrap (x4_1 * x0_1)), (by first | rfl | (simp; done) | (simp [*]; done)), (by first | rfl | (simp; done) | (simp [*]; done)), (by first | rfl | (simp; done) | (simp [*]; done)), H', ⟨by have := HK1.out; omega⟩, by repeat (first | exact Drawn0.refl _ | apply Drawn0.step)⟩
      · rw [if_neg c3] at H
        have c3b0 : decide (0 < x1_1) = false := decide_eq_false c3
        clear c3
        obtain rfl := Option.some.inj H
        go_wp2
        go_ret
        exact ⟨by first | rfl | (simp; done) | (simp [*]; done), by repeat (first | exact Drawn0.refl _ | apply Drawn0.step)⟩


end Go.Proofs.YtgpoplfgngiilaaGreatDoor.Pr
