/- told of an integer value; IsInt. -/
import Derived.Test.YtgpoplfgngiilaaGreatDoorA2
import Derived.Deep.RegionWith
namespace Go.Proofs.YtgpoplfgngiilaaGreatDoor
open Go.RowKit Go.Proofs.YtgpoplfgngiilaaGreatDoorW.PrintWords Go.Proofs.YtgpoplfgngiilaaGreatDoorW.PrintLast Go.Proofs.YtgpoplfgngiilaaGreatDoorW.PrintMore

theorem me_kind_88 (v : Value) (w : World) : (method 462 88 v "Kind").run Tryz.prog w = .ok (308, v) w := by kernel_rfl
theorem me_kind_94 (v : Value) (w : World) : (method 462 94 v "Kind").run Tryz.prog w = .ok (314, v) w := by kernel_rfl
attribute [local go_sem] me_kind_88 me_kind_94

theorem parts_int64 (x : Int) (w : World) (h0 : 0 ≤ x) (h1 : x ≤ 9223372036854775807) :
    Calls Tryz.prog 40 #[.iface 88 (.int .i64 x)] w fun e w' => ∃ v u, e = .returned (.tuple #[.agg #[.bool false, v], u]) ∧ Kd.R (Kd.int .u64) 50 w' w.heap.size (fun _ => True) v (wordsOf64 x) ∧ Below w.heap.size w w' := by
  unfold wordsOf64
  by_cases hx : x = 0
  · subst hx; rw [if_pos rfl]; exact parts_int64_zero w
  · rw [if_neg hx]; exact parts_int64_pos x w (by omega) h1

set_option maxHeartbeats 1000000 in
set_option maxRecDepth 100000 in
theorem told_int64 (x : Int) (w : World) (h0 : 0 ≤ x) (h1 : x ≤ 9223372036854775807) :
    Calls Tryz.prog 26 #[.iface 88 (.int .i64 x)] w fun e w' => ∃ v, e = .returned (.agg #[.int .i64 3, .bool false, .string ⟨#[]⟩, .bool false, v, .slice none 0 0, .bool false, .slice none 0 0, .slice none 0 0]) ∧ Kd.R (Kd.int .u64) 50 w' w.heap.size (fun _ => True) v (wordsOf64 x) ∧ Below w.heap.size w w' := by
  go_enter Tryz.func26, Tryz.ntmps26
  go_wp2_with (first | (go_at_call 40; (refine (parts_int64 x _ h0 h1).mono ?_); rintro e w1 ⟨v, u, rfl, hR, hB⟩; have hR' := Aside0.mk hR; have hB' := Aside0.mk hB; have hs := hB.size; simp only [World.size_alloc] at hs; obtain ⟨q1, q2⟩ := bcell hB; simp only [World.size_alloc] at q1 q2; have hz : w.heap.size < w1.heap.size := (by omega); have hz1 : w.heap.size + 1 < w1.heap.size := (by omega); clear hR hB; obtain ⟨Av, cv, rfl, -⟩ := Kd.R_reads hR'.out) | go_in)
  have e0 : w1.cell? ⟨w.heap.size, 0, none⟩ = some (.int .i64 0) := (q1 w.heap.size 0 (by omega)).trans (by go_simp)
  have e1 : w1.cell? ⟨w.heap.size, 1, none⟩ = some (.bool false) := (q1 w.heap.size 1 (by omega)).trans (by go_simp)
  have e2 : w1.cell? ⟨w.heap.size, 2, none⟩ = some (.string ⟨#[]⟩) := (q1 w.heap.size 2 (by omega)).trans (by go_simp)
  have e3 : w1.cell? ⟨w.heap.size, 3, none⟩ = some (.bool false) := (q1 w.heap.size 3 (by omega)).trans (by go_simp)
  have e4 : w1.cell? ⟨w.heap.size, 4, none⟩ = some (.slice none 0 0) := (q1 w.heap.size 4 (by omega)).trans (by go_simp)
  have e5 : w1.cell? ⟨w.heap.size, 5, none⟩ = some (.slice none 0 0) := (q1 w.heap.size 5 (by omega)).trans (by go_simp)
  have e6 : w1.cell? ⟨w.heap.size, 6, none⟩ = some (.bool false) := (q1 w.heap.size 6 (by omega)).trans (by go_simp)
  have e7 : w1.cell? ⟨w.heap.size, 7, none⟩ = some (.slice none 0 0) := (q1 w.heap.size 7 (by omega)).trans (by go_simp)
  have e8 : w1.cell? ⟨w.heap.size, 8, none⟩ = some (.slice none 0 0) := (q1 w.heap.size 8 (by omega)).trans (by go_simp)
  refine bodyPost_ret (v := .agg #[.int .i64 3, .bool false, .string ⟨#[]⟩, .bool false, .slice Av (wordsOf64 x).length cv, .slice none 0 0, .bool false, .slice none 0 0, .slice none 0 0]) (by simp [results, Tryz.results26, go_sem, e0, e1, e2, e3, e4, e5, e6, e7, e8]) rfl ⟨_, rfl, ?_, ?_⟩
  · refine R_after (N := w.heap.size + 2) hR'.out (by simp) (by simp; try omega) ?_
    intro k h1 h2
    repeat (refine hk_set (by simp; omega) ?_)
    rfl
  · have hb0 : Below w.heap.size w w1 := (((Below.refl w.heap.size w).alloc (Nat.le_refl _) _).alloc (by simp) _).trans (hB'.out.mono (by simp; omega))
    repeat (refine Below.setCell ?_ (by simp) _)
    exact hb0
end Go.Proofs.YtgpoplfgngiilaaGreatDoor
