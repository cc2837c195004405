/- FnLiteralHexFloat, behind its card (G9). -/
import Derived.Test.YtgpoplfgngiilaaGreatDoorR18
set_option linter.unusedVariables false
set_option linter.unusedSimpArgs false
namespace Go.Proofs.YtgpoplfgngiilaaGreatDoor
set_option linter.unusedVariables false
set_option linter.unusedSimpArgs false
open Go.RowKit Go.Proofs.YtgpoplfgngiilaaGreatDoorW.PrintWords

set_option maxHeartbeats 2000000 in
set_option maxRecDepth 1000000 in
theorem euclid (q r gA gB a b U y : Nat) (u v : Value) (w : World) (hq : Iz w q (.slice none 0 0)) (hr : Iz w r (.slice none 0 0)) (hA : Iz w gA u) (hB : Iz w gB v) (hu : NW w a u U) (hv : NW w b v y) (hqr : q ≠ r) (hqA : q ≠ gA) (hqB : q ≠ gB) (hrA : r ≠ gA) (hrB : r ≠ gB)
    (h0 : 0 < U) (hl : (lits 18446744073709551616 U).length ≤ 1000) (hy0 : 0 < y) (hy : y < 18446744073709551616) (hyU : y ≤ U) :
    Calls Tryz.prog 186 #[.pointer (some ⟨gA, 0, none⟩), .pointer (some ⟨gB, 0, none⟩), .pointer none, .pointer none, .pointer (some ⟨q, 0, none⟩), .pointer (some ⟨r, 0, none⟩), .bool false] w fun e w' =>
      ∃ v', e = .returned (.tuple #[.pointer (some ⟨gB, 0, none⟩), .pointer (some ⟨r, 0, none⟩), .pointer (some ⟨gA, 0, none⟩), .pointer none, .pointer none]) ∧ Iz w' r v' ∧ NV w.heap.size w' v' (lits 18446744073709551616 (U % y)) ∧ Fr (fun k => k = q ∨ k = r) w w' := by
  have HD := Aside0.mk (int_quoRem q r gA gB a b U y u v w hq hr hA hB hu hv hqr hqA hqB hrA hrB h0 hl hy0 hy hyU)
  clear hq hr hA hB hu hv hqr hqA hqB hrA hrB h0 hl hy0 hy hyU
  go_enter Tryz.func186, Tryz.ntmps186
  go_wp2_with (go_at_call 235; go_must (refine HD.out.mono ?_); rintro e w1 ⟨v1, rfl, h1, h2, h3⟩; have H1 := Aside0.mk h1; have H2 := Aside0.mk h2; have H3 := Aside0.mk h3; clear h1 h2 h3)
  first
    | go_ret2
    | refine bodyPost_ret (v := .tuple #[.pointer (some ⟨gB, 0, none⟩), .pointer (some ⟨r, 0, none⟩), .pointer (some ⟨gA, 0, none⟩), .pointer none, .pointer none]) (by simp [results, Tryz.results186, go_sem]) rfl ?_
  exact ⟨_, rfl, H1.out, H2.out, H3.out⟩

theorem NW.one {w : World} (g : Nat) (h : w.heap[g]? = some (.cells #[.int .u64 1] 167 (0, 0))) : NW w g (.slice (some ⟨g, 0, none⟩) 1 1) 1 := by
  have e : lits 18446744073709551616 1 = [1] := wl_one (by decide) (by decide)
  refine ⟨[1], by rw [e]; rfl, h, by rw [e]; rfl, ?_, by decide⟩
  intro z hz
  cases List.mem_singleton.1 hz
  exact ⟨by decide, by decide⟩

set_option maxHeartbeats 2000000 in
set_option maxRecDepth 1000000 in
theorem int_one (w : World) : Calls Tryz.prog 138 #[] w fun e w' => ∃ g v, e = .returned (.pointer (some ⟨g, 0, none⟩)) ∧ w.heap.size ≤ g ∧ Iz w' g v ∧ NW w' w.heap.size v 1 ∧ g ≠ w.heap.size ∧ Fr (fun _ => False) w w' := by
  have HO := Aside0.mk (fun W => (show Calls Tryz.prog 193 #[] W fun e w' => e = .returned (.slice (some ⟨W.heap.size, 0, none⟩) 1 1) ∧ w' = W.alloc (.cells #[.int .u64 1] 167) by
    go_enter Tryz.func193, Tryz.ntmps193
    go_wp2_with fail
    go_ret
    exact ⟨rfl, rfl⟩))
  go_enter Tryz.func138, Tryz.ntmps138
  go_wp2_with (go_at_call 193; go_must (refine (HO.out _).mono ?_); rintro e w1 ⟨rfl, rfl⟩)
  go_ret
  refine ⟨w.heap.size + 1, .slice (some ⟨w.heap.size, 0, none⟩) 1 1, rfl, Nat.le_succ _, ?_, ?_, by omega, ?_⟩
  · have := heap_alloc_new (w.alloc (.cells #[.int .u64 1] 167)) (.cells #[.bool false, .slice (some ⟨w.heap.size, 0, none⟩) 1 1] 116)
    simpa [Iz] using this
  · exact NW.one _ ((((Fr.refl (fun _ => False) (w.alloc (.cells #[.int .u64 1] 167))).alloc _).block w.heap.size (by simp) (fun h => h)).trans (heap_alloc_new w (.cells #[.int .u64 1] 167)))
  · exact ((Fr.refl _ _).alloc _).alloc _

set_option maxHeartbeats 2000000 in
set_option maxRecDepth 1000000 in
theorem new_int0 (w : World) : Calls Tryz.prog 135 #[.int .i64 0] w fun e w' => e = .returned (.pointer (some ⟨w.heap.size, 0, none⟩)) ∧ w' = w.alloc (.cells #[.bool false, .slice none 0 0] 116) := by
  go_enter Tryz.func135, Tryz.ntmps135
  go_wp2_with fail
  go_ret
  exact ⟨rfl, rfl⟩

theorem Fr.newTrans {W w' : World} {o : Obj} (h : Fr (fun k => k = W.heap.size) (W.alloc o) w') : Fr (fun _ => False) W w' := by
  have h1 : Fr (fun _ => False) W (W.alloc o) := (Fr.refl _ _).alloc _
  refine ⟨h.os.trans h1.os, h.tape.trans h1.tape, h.output.trans h1.output, Nat.le_trans h1.size h.size, fun k hk _ => ?_⟩
  exact (h.block k (Nat.lt_of_lt_of_le hk h1.size) (by show ¬ k = W.heap.size; omega)).trans (h1.block k hk (fun h => h))

/-- new(Int).Abs(x). -/
theorem abs_new (gx o g n : Nat) (v : Value) (w W : World) (hx : IA w gx o v) (hv : NW w g v n) (h0 : 0 < n) (hl : (lits 18446744073709551616 n).length ≤ 1000) (hW : Fr (fun _ => False) w W) :
    Calls Tryz.prog 182 #[.pointer (some ⟨W.heap.size, 0, none⟩), .pointer (some ⟨gx, o, none⟩)] (W.alloc (.cells #[.bool false, .slice none 0 0] 116)) fun e w' => ∃ v' g', W.heap.size < g' ∧ e = .returned (.pointer (some ⟨W.heap.size, 0, none⟩)) ∧ Iz w' W.heap.size v' ∧ NW w' g' v' n ∧ Fr (fun _ => False) W w' := by
  have h1 : Fr (fun _ => False) W (W.alloc (.cells #[.bool false, .slice none 0 0] 116)) := (Fr.refl _ _).alloc _
  have hx1 := hx.far hW (fun h => h)
  have hv1 := hv.far hW (fun h => h)
  refine (int_abs W.heap.size g gx o n v _ (heap_alloc_new W _) (hx1.far h1 (fun h => h)) (hv1.far h1 (fun h => h)) (by have := hx1.lt; omega) (by have := hv1.lt; omega) h0 hl).mono ?_
  rintro e w' ⟨v', g', hg, rfl, h2, h3, h4⟩
  exact ⟨v', g', by simp at hg; omega, rfl, h2, h3, h4.newTrans⟩
end Go.Proofs.YtgpoplfgngiilaaGreatDoor
