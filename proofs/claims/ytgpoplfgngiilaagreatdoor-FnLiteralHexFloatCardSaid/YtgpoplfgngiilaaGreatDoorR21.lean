/- FnLiteralHexFloat, behind its card (G11). -/
import Derived.Test.YtgpoplfgngiilaaGreatDoorR20
import Derived.Defers
set_option linter.unusedVariables false
set_option linter.unusedSimpArgs false
namespace Go.Proofs.YtgpoplfgngiilaaGreatDoor
set_option linter.unusedVariables false
set_option linter.unusedSimpArgs false
open Go.RowKit Go.Proofs.YtgpoplfgngiilaaGreatDoorW.PrintWords

set_option maxHeartbeats 2000000 in
set_option maxRecDepth 1000000 in
theorem int_cmp (hx hy gx gy n m : Nat) (u v : Value) (w : World) (h1 : Iz w hx u) (h2 : Iz w hy v) (hu : NW w gx u n) (hv : NW w gy v m) (hne : hx ≠ hy) (hn : 0 < n) (hm : 0 < m) (hnl : (lits 18446744073709551616 n).length ≤ 1000) (hml : (lits 18446744073709551616 m).length ≤ 1000)
    (hc : (lits 18446744073709551616 n).length ≠ (lits 18446744073709551616 m).length ∨ (n < 18446744073709551616 ∧ m < 18446744073709551616)) :
    Calls Tryz.prog 137 #[.pointer (some ⟨hx, 0, none⟩), .pointer (some ⟨hy, 0, none⟩)] w fun e w' => e = .returned (.int .i64 (sg n m)) ∧ Fr (fun _ => False) w w' := by
  have HM := Aside0.mk (fun W' (h : Fr (fun _ => False) w W') => ncmp_c (hu.far h (fun h => h)) (hv.far h (fun h => h)) hn hm hnl hml hc)
  have x0 := h1.c0
  have x1 := h1.c1
  have y0 := h2.c0
  have y1 := h2.c1
  obtain ⟨cx, rfl⟩ := hu.slice
  obtain ⟨cy, rfl⟩ := hv.slice
  obtain ⟨ln, hln⟩ : ∃ l, (lits 18446744073709551616 n).length = l := ⟨_, rfl⟩
  obtain ⟨lm, hlm⟩ : ∃ l, (lits 18446744073709551616 m).length = l := ⟨_, rfl⟩
  rw [hln] at x1 HM
  rw [hlm] at y1 HM
  obtain ⟨hpe, -⟩ := ptr_eql_other (w := w) (a := ⟨hx, 0, none⟩) (b := ⟨hy, 0, none⟩) (fun h => by cases h; exact hne rfl) h1 h2
  clear h1 h2 hu hv hne hn hm hnl hml hc hln hlm
  go_enter Tryz.func137, Tryz.ntmps137
  go_upto_region 3 with fail
  go_region
  go_upto_region 4 with fail
  obtain ⟨S, hS, hS0⟩ : ∃ S : World → Prop, S w.drew.drew ∧ ∀ W', S W' → W'.cell? ⟨hx, 1, none⟩ = some (.slice (some ⟨gx, 0, none⟩) ln cx) ∧ W'.cell? ⟨hy, 1, none⟩ = some (.slice (some ⟨gy, 0, none⟩) lm cy) := ⟨_, ⟨x1, y1⟩, fun _ h => h⟩
  refine wp_region_till S 8 (by kernel_rfl) ?_
  refine till_free (i := 0) (some 19) (v := ?_) rfl rfl (by kernel_rfl) (by kernel_rfl) (by kernel_rfl) (by decide) (fun _ _ _ h => h) (Or.inl ⟨by rfl, ?_⟩) hS ?_
  rotate_left 1
  · ((intro W; go_simp); all_goals (with_reducible rfl))
  (try simp only [Act.put, List.setIfInBounds_toArray, List.set_cons_zero, List.set_cons_succ])
  refine till_free (i := 1) (some 20) (v := ?_) rfl rfl (by kernel_rfl) (by kernel_rfl) (by kernel_rfl) (by decide) (fun _ _ _ h => h) (Or.inl ⟨by rfl, ?_⟩) hS ?_
  rotate_left 1
  · ((intro W; go_simp); all_goals (with_reducible rfl))
  (try simp only [Act.put, List.setIfInBounds_toArray, List.set_cons_zero, List.set_cons_succ])
  refine till_free (i := 2) (some 21) (v := ?_) rfl rfl (by kernel_rfl) (by kernel_rfl) (by kernel_rfl) (by decide) (fun _ _ _ h => h) (Or.inl ⟨by rfl, ?_⟩) hS ?_
  rotate_left 1
  · ((intro W; go_simp); all_goals (with_reducible rfl))
  (try simp only [Act.put, List.setIfInBounds_toArray, List.set_cons_zero, List.set_cons_succ])
  refine till_free (i := 4) (some 23) (v := ?_) rfl rfl (by kernel_rfl) (by kernel_rfl) (by kernel_rfl) (by decide) (fun _ _ _ h => h) (Or.inl ⟨by rfl, ?_⟩) hS ?_
  rotate_left 1
  · ((intro W; go_simp); all_goals (with_reducible rfl))
  (try simp only [Act.put, List.setIfInBounds_toArray, List.set_cons_zero, List.set_cons_succ])
  refine till_free (i := 5) (some 24) (v := ?_) rfl rfl (by kernel_rfl) (by kernel_rfl) (by kernel_rfl) (by decide) (fun _ _ _ h => h) (Or.inl ⟨by rfl, ?_⟩) hS ?_
  rotate_left 1
  · ((intro W; go_simp); all_goals (with_reducible rfl))
  (try simp only [Act.put, List.setIfInBounds_toArray, List.set_cons_zero, List.set_cons_succ])
  refine till_free (i := 6) (some 25) (v := ?_) rfl rfl (by kernel_rfl) (by kernel_rfl) (by kernel_rfl) (by decide) (fun _ _ _ h => h) (Or.inl ⟨by rfl, ?_⟩) hS ?_
  rotate_left 1
  · ((intro W; go_simp); all_goals (with_reducible rfl))
  (try simp only [Act.put, List.setIfInBounds_toArray, List.set_cons_zero, List.set_cons_succ])
  refine till_take (i := 3) (some 22) (v := ?_) rfl rfl (by kernel_rfl) (by kernel_rfl) (by kernel_rfl) (by kernel_rfl) (by kernel_rfl) (fun _ _ _ h => h) (Or.inl ⟨by rfl, ?_⟩) hS ?_
  rotate_left 1
  · ((intro W hW; have hW2 := hS0 W hW; go_simp); all_goals (with_reducible rfl))
  (try simp only [Act.put, List.setIfInBounds_toArray, List.set_cons_zero, List.set_cons_succ])
  refine till_take (i := 7) (some 26) (v := ?_) rfl rfl (by kernel_rfl) (by kernel_rfl) (by kernel_rfl) (by kernel_rfl) (by kernel_rfl) (fun _ _ _ h => h) (Or.inl ⟨by rfl, ?_⟩) hS ?_
  rotate_left 1
  · ((intro W hW; have hW2 := hS0 W hW; go_simp); all_goals (with_reducible rfl))
  (try simp only [Act.put, List.setIfInBounds_toArray, List.set_cons_zero, List.set_cons_succ])
  refine wpTill_call (c := 8) (by kernel_rfl) (by kernel_rfl) (AllReady.cons rfl (fun K hK => ?_) AllReady.nil)
  go_simp
  go_wp2_with (go_at_call 183; refine (HM.out _ (Fr.drew (Fr.drew (Fr.refl _ _)))).mono ?_; rintro e w3 ⟨rfl, h7⟩; have H7 := Aside0.mk h7; have x0' := h7.cellv (show (World.drew (World.drew w)).cell? _ = _ from x0) (fun h => h); clear h7)
  refine any_take (i := 9) (some 4) (v := ?_) rfl rfl (by kernel_rfl) (by kernel_rfl) (by kernel_rfl) (fun _ _ _ h => h) (Or.inl ⟨by rfl, ?_⟩) ?_
  rotate_left 1
  · ((intro W; go_simp); all_goals (with_reducible rfl))
  (try simp only [Act.put, List.setIfInBounds_toArray, List.set_cons_zero, List.set_cons_succ])
  refine wpAny_done (by kernel_rfl) ?_ _
  clear hS hS0 S
  go_wp2_with fail
  go_ret
  exact ⟨rfl, ((Fr.refl _ _).drew.drew).trans H7.out⟩

set_option maxHeartbeats 2000000 in
set_option maxRecDepth 1000000 in
theorem get_stack (w : World) : Calls Tryz.prog 113 #[] w fun e w' => e = .returned (.pointer (some ⟨w.heap.size, 0, none⟩)) ∧ w' = w.alloc (.cells #[.pointer none] 244) := by
  go_enter Tryz.func113, Tryz.ntmps113
  go_wp2_with fail
  go_ret
  exact ⟨rfl, rfl⟩

/-- stack.free, deferred, of an empty stack. -/
theorem free_d (g : Nat) (u : FrameMode) (w : World) (hc : w.cell? ⟨g, 0, none⟩ = some (.pointer none)) :
    CallsD Tryz.prog 114 #[.pointer (some ⟨g, 0, none⟩)] u w fun e u' w' => u' = u ∧ (e = .returned (.tuple #[]) ∧ w' = w) := by
  go_enter_d Tryz.func114, Tryz.ntmps114
  go_wp2_with fail
  go_end0
  exact ⟨rfl, rfl⟩
end Go.Proofs.YtgpoplfgngiilaaGreatDoor
