/- FnLiteralHexFloat, behind its card (B3 G3 G4). -/
import Derived.Test.YtgpoplfgngiilaaGreatDoorR09
import Derived.BigRegion
set_option linter.unusedVariables false
set_option linter.unusedSimpArgs false
namespace Go.Proofs.YtgpoplfgngiilaaGreatDoor
open Go.RowKit Go.Proofs.YtgpoplfgngiilaaGreatDoorW.PrintWords

theorem and_63 (s : Nat) (h : s < 64) : bits .and .u64 (s : Int) 63 = (s : Int) := by
  have key : ∀ s : Fin 64, bits .and .u64 ((s.val : Nat) : Int) 63 = ((s.val : Nat) : Int) := by decide +kernel
  exact key ⟨s, h⟩

/-- shE over a row that is longer than the words. -/
theorem shE_in {xs : List Int} {M K j : Nat} (hj : j + 1 < xs.length) : shE xs M K j = (xs[j]'(by omega)).toNat / M + ((xs[j + 1]'hj).toNat * K) % 18446744073709551616 := by
  unfold shE
  rw [List.getElem?_eq_getElem (by omega), List.getElem?_eq_getElem hj]
  rfl
theorem shE_last {xs : List Int} {M K j : Nat} (hj : j + 1 = xs.length) : shE xs M K j = (xs[j]'(by omega)).toNat / M := by
  unfold shE
  rw [List.getElem?_eq_getElem (by omega), List.getElem?_eq_none (by omega)]
  simp

theorem sh_set {xs ys : List Int} {M K j m : Nat} (hm : m = xs.length) (hmy : m ≤ ys.length) (hj : j < m) :
    (shW xs M K j ++ ys.drop j).set j ((shE xs M K j : Nat) : Int) = shW xs M K (j + 1) ++ ys.drop (j + 1) := by
  rw [shW_snoc, List.drop_eq_getElem_cons (by omega), List.set_append_right _ _ (by rw [shW_length]; exact Nat.le_refl _), shW_length, Nat.sub_self, List.set_cons_zero]
  simp
theorem sh_get {xs ys : List Int} {M K j m i : Nat} (ht : ys.take m = xs) (hm : m = xs.length) (hi : i < m) (hj : j ≤ i) : ∃ (h : i < (shW xs M K j ++ ys.drop j).length) (h2 : i < xs.length), (shW xs M K j ++ ys.drop j)[i]'h = xs[i]'h2 := by
  have hmy : m ≤ ys.length := by have := congrArg List.length ht; rw [List.length_take] at this; omega
  have h : i < (shW xs M K j ++ ys.drop j).length := by rw [List.length_append, shW_length, List.length_drop]; omega
  refine ⟨h, by omega, ?_⟩
  rw [List.getElem_append_right (by rw [shW_length]; exact hj), List.getElem_drop]
  subst ht
  rw [List.getElem_take]
  congr 1
  rw [shW_length]; omega

theorem or_val {s t x y : Nat} (hst : s + t = 64) (hx : x < 18446744073709551616) : bits .or .u64 ((x : Int) / 2 ^ s) (IntKind.u64.wrap ((y : Int) * 2 ^ t)) = ((x / 2 ^ s + (y * 2 ^ t) % 18446744073709551616 : Nat) : Int) := by
  have h1 : ((x : Int) / 2 ^ s) = ((x / 2 ^ s : Nat) : Int) := by simp
  have h2 : IntKind.u64.wrap ((y : Int) * 2 ^ t) = ((y * 2 ^ t % 18446744073709551616 : Nat) : Int) := by
    rw [IntKind.wrap_u64]
    simp
  have h3 : x / 2 ^ s ≤ x := Nat.div_le_self _ _
  rw [h1, h2, u64_or_nat _ _ (by omega) (Nat.mod_lt _ (by decide)), sh_or hst hx]

def HRel (xs ys : List Int) (M K g m kq : Nat) (v8 : Value) (w w' : World) : Prop :=
  ∃ j : Nat, v8 = .int .i64 ((j : Int) + 1) ∧ Aside0 (j < m ∧ kq = m - j) ∧ Aside0 (Nb w' g (shW xs M K j ++ ys.drop j)) ∧ Aside0 (Fr (fun k => k = g) w w')

set_option maxHeartbeats 2000000 in
set_option maxRecDepth 1000000 in
theorem rshVU_g (g c m s t : Nat) (xs ys : List Int) (w : World) (hm : m = xs.length) (hm0 : 0 < m) (hm2 : m ≤ 1000000) (hc : m ≤ c) (ht : ys.take m = xs) (hR : InR 18446744073709551616 xs) (hs : 0 < s) (ht0 : 0 < t) (hst : s + t = 64) (hZ : Nb w g ys) :
    Calls Tryz.prog 241 #[.slice (some ⟨g, 0, none⟩) m c, .slice (some ⟨g, 0, none⟩) m c, .int .u64 s] w fun e w' =>
      (∃ x : Int, e = .returned (.int .u64 x)) ∧ Nb w' g (shW xs (2 ^ s) (2 ^ t) m ++ ys.drop m) ∧ Fr (fun k => k = g) w w' := by
  have HZ := Aside0.mk hZ
  have HM := Aside0.mk (And.intro hm (And.intro ht hR))
  have HST := Aside0.mk hst
  have hs64 : s < 64 := by omega
  have ht64 : t < 64 := by omega
  have e1 := and_63 s hs64
  have e2 := and_63 t ht64
  have e3 : (64 : Int) - (s : Int) = (t : Int) := by omega
  have hx0 := hZ.cell 0 (by have := congrArg List.length ht; rw [List.length_take] at this; omega)
  generalize ys[0]'(by have := congrArg List.length ht; rw [List.length_take] at this; omega) = y0 at hx0
  have hm1 : ((m : Int) == 0) = false := beq_false_of_ne (by omega)
  have hs1 : ((s : Int) == 0) = false := beq_false_of_ne (by omega)
  clear hZ hm ht hR hst
  go_enter Tryz.func241, Tryz.ntmps241
  go_wp2_with fail
  go_loopg [8] m (fun kq v8 w' => HRel xs ys (2 ^ s) (2 ^ t) g m kq v8 w w')
  case atStart => exact ⟨0, by go_num, ⟨by omega, by omega⟩, ⟨by simpa [shW] using HZ.out⟩, ⟨Fr.refl _ _⟩⟩
  case round =>
    obtain ⟨j, rfl, HI, HN, HF⟩ := hrel
    have hjm : j < m := HI.out.1
    obtain ⟨hl1, hl2, hv1⟩ := sh_get (M := 2 ^ s) (K := 2 ^ t) HM.out.2.1 HM.out.1 hjm (Nat.le_refl j)
    have hc1 := HN.out.cell j hl1
    rw [hv1] at hc1
    have hr1 := HM.out.2.2 _ (List.getElem_mem hl2)
    have hf1 := HN.out.frozen j
    obtain ⟨x, hx⟩ : ∃ x : Nat, xs[j]'hl2 = (x : Int) := ⟨(xs[j]'hl2).toNat, by omega⟩
    rw [hx] at hc1 hr1
    have hxl : x < 18446744073709551616 := by omega
    by_cases hlt : j + 1 < m
    · have hb : decide ((j : Int) + 1 < (m : Int)) = true := by simp; omega
      obtain ⟨hl3, hl4, hv2⟩ := sh_get (M := 2 ^ s) (K := 2 ^ t) HM.out.2.1 HM.out.1 hlt (Nat.le_succ j)
      have hc2 := HN.out.cell (j + 1) hl3
      rw [hv2] at hc2
      have hr2 := HM.out.2.2 _ (List.getElem_mem hl4)
      obtain ⟨y, hy⟩ : ∃ y : Nat, xs[j + 1]'hl4 = (y : Int) := ⟨(xs[j + 1]'hl4).toNat, by omega⟩
      rw [hy] at hc2 hr2
      have hyl : y < 18446744073709551616 := by omega
      have HE := Aside0.mk (shE_in (xs := xs) (M := 2 ^ s) (K := 2 ^ t) hl4)
      rw [hx, hy] at HE
      clear hv1 hv2 hx hy hr1 hr2 hl1 hl2 hl3
      go_wp2_with fail
      go_region
      go_wp2_with fail
      go_roundg (gk - 1)
      case measure => have := HI.out; omega
      case rel =>
        refine ⟨j + 1, by go_num, ⟨hlt, by have := HI.out; omega⟩, ⟨?_⟩, ⟨(HF.out.setCell (p := ⟨g, j, none⟩) (Or.inl rfl) _).drew⟩⟩
        have h := HN.out.set j ((shE xs (2 ^ s) (2 ^ t) j : Nat) : Int)
        rw [sh_set HM.out.1 (by have := congrArg List.length HM.out.2.1; rw [List.length_take] at this; have := HM.out.1; omega) hjm, HE.out, Int.toNat_natCast, Int.toNat_natCast, ← or_val HST.out hxl] at h
        exact h
    · have hb : decide ((j : Int) + 1 < (m : Int)) = false := by simp; omega
      have hjm1 : m - 1 = j := by omega
      have hmi : (m : Int) - 1 = (j : Int) := by omega
      have HE := Aside0.mk (shE_last (xs := xs) (M := 2 ^ s) (K := 2 ^ t) (j := j) (by have := HM.out.1; omega))
      rw [hx] at HE
      have HJ := Aside0.mk hjm1
      clear hv1 hx hr1 hl1 hl2 hjm1
      go_wp2_with fail
      go_ret
      refine ⟨⟨_, rfl⟩, ?_, HF.out.setCell (p := ⟨g, j, none⟩) (Or.inl rfl) _⟩
      have h := HN.out.set j ((shE xs (2 ^ s) (2 ^ t) j : Nat) : Int)
      rw [sh_set HM.out.1 (by have := congrArg List.length HM.out.2.1; rw [List.length_take] at this; have := HM.out.1; omega) hjm, HE.out, Int.toNat_natCast, show j + 1 = m by have := HJ.out; omega] at h
      exact h

set_option maxHeartbeats 2000000 in
set_option maxRecDepth 1000000 in
theorem rshVU (g c m s t : Nat) (xs ys : List Int) (w : World) (hm : m = xs.length) (hm0 : 0 < m) (hm2 : m ≤ 1000000) (hc : m ≤ c) (ht : ys.take m = xs) (hR : InR 18446744073709551616 xs) (hs : 0 < s) (ht0 : 0 < t) (hst : s + t = 64) (hZ : Nb w g ys) :
    Calls Tryz.prog 200 #[.slice (some ⟨g, 0, none⟩) m c, .slice (some ⟨g, 0, none⟩) m c, .int .u64 s] w fun e w' =>
      (∃ x : Int, e = .returned (.int .u64 x)) ∧ Nb w' g (shW xs (2 ^ s) (2 ^ t) m ++ ys.drop m) ∧ Fr (fun k => k = g) w w' := by
  have H := Aside0.mk (rshVU_g g c m s t xs ys w hm hm0 hm2 hc ht hR hs ht0 hst hZ)
  clear hm ht hR hst hZ
  go_enter Tryz.func200, Tryz.ntmps200
  go_wp2_with (go_at_call 241; go_must (refine H.out.mono ?_); rintro e w1 ⟨⟨x, rfl⟩, hn1, hf1⟩; have HN1 := Aside0.mk hn1; have HF1 := Aside0.mk hf1; clear hn1 hf1)
  go_ret
  exact ⟨⟨x, rfl⟩, HN1.out, HF1.out⟩

set_option maxHeartbeats 2000000 in
set_option maxRecDepth 1000000 in
/-- z.rsh(z, s) by less than a word. -/
theorem rsh_NV (base : Nat) (v : Value) (Y s : Nat) (w : World) (hV : NV base w v (lits 18446744073709551616 Y)) (hl : (lits 18446744073709551616 Y).length ≤ 1000) (hY : 0 < Y) (hs : 0 < s) (hs64 : s < 64) (hb : base ≤ w.heap.size) :
    Calls Tryz.prog 153 #[v, v, .int .u64 s] w fun e w' => ∃ v', e = .returned v' ∧ NV base w' v' (lits 18446744073709551616 (Y / 2 ^ s)) ∧ Below base w w' := by
  have hne : lits 18446744073709551616 Y ≠ [] := fun h => by have := congrArg (valL 18446744073709551616) h; rw [valL_lits _ (by decide)] at this; simp [valL] at this; omega
  have hl0 : 0 < (lits 18446744073709551616 Y).length := List.length_pos_iff.2 hne
  have hR := InR_lits 18446744073709551616 (by decide) Y
  have hval := valL_lits 18446744073709551616 (by decide) Y
  generalize lits 18446744073709551616 Y = xs at *
  obtain ⟨t, hst⟩ : ∃ t, s + t = 64 := ⟨64 - s, by omega⟩
  have hMK : 2 ^ s * 2 ^ t = 18446744073709551616 := by rw [← Nat.pow_add, hst]
  rcases hV with ⟨_, h⟩ | ⟨g, ys, h1, rfl, h3, h4, h5, h6⟩
  · exact absurd h hne
  · obtain ⟨m, hm⟩ : ∃ m, m = xs.length := ⟨_, rfl⟩
    have hle : m ≤ ys.length := by have := congrArg List.length h4; rw [List.length_take] at this; omega
    rw [← hm] at h4 hl hl0 ⊢
    obtain ⟨c, hcc⟩ : ∃ c, c = ys.length := ⟨_, rfl⟩
    rw [← hcc] at hle h6 ⊢
    have H := Aside0.mk (rshVU g c m s t xs ys w hm hl0 (by omega) hle h4 hR hs (by omega) hst h3)
    have hmk := Aside0.mk (make_reuse (some ⟨g, 0, none⟩) m c m hle w)
    have hshv := shW_val hMK (Nat.pow_pos (by decide)) xs
    rw [← hm, hval] at hshv
    have hshR := shW_R hMK (Nat.pow_pos (by decide)) (Nat.pow_pos (by decide)) xs hR m
    have hlen : (shW xs (2 ^ s) (2 ^ t) m ++ ys.drop m).length = c := by rw [List.length_append, shW_length, List.length_drop]; omega
    have htk : (shW xs (2 ^ s) (2 ^ t) m ++ ys.drop m).take m = shW xs (2 ^ s) (2 ^ t) m := by
      have := List.take_left (l₁ := shW xs (2 ^ s) (2 ^ t) m) (l₂ := ys.drop m)
      rwa [shW_length] at this
    have hall : InR 18446744073709551616 (shW xs (2 ^ s) (2 ^ t) m ++ ys.drop m) := InR_append hshR (InR_drop h5 _)
    have hno := Aside0.mk (fun W h => norm_calls g c m (shW xs (2 ^ s) (2 ^ t) m ++ ys.drop m) W (by omega) hle (by omega) hall h)
    rw [htk, hshv] at hno
    have HQ := Aside0.mk (And.intro hlen (And.intro hall (And.intro h1 h6)))
    have hms : ((s : Int) == 0) = false := beq_false_of_ne (by omega)
    have hq1 : (s : Int) / 64 = 0 := by omega
    have hq2 : (s : Int) % 64 = (s : Int) := by omega
    have hq3 : decide ((m : Int) ≤ 0) = false := by simp; omega
    clear hcc hm h3 h4 h5 hR hval hshv hshR htk hall hlen hMK hst hne h1
    go_enter Tryz.func153, Tryz.ntmps153
    go_wp2_with (first | (go_at_call 130; go_must (refine hmk.out.mono ?_); rintro e w1 ⟨rfl, rfl⟩) | (go_at_call 200; go_must (refine H.out.mono ?_); rintro e w2 ⟨⟨x, rfl⟩, hn2, hf2⟩; have HN2 := Aside0.mk hn2; have HF2 := Aside0.mk hf2; clear hn2 hf2) | (go_at_call 134; go_must (refine (hno.out _ HN2.out).mono ?_); rintro e w3 ⟨n', rfl, hn3, hn4, rfl⟩; have HN4 := Aside0.mk (And.intro hn3 hn4); clear hn3 hn4))
    have hn' : (lits 18446744073709551616 (Y / 2 ^ s)).length = n' := by rw [← HN4.out.2, List.length_take, HQ.out.1]; have := HN4.out.1; omega
    refine bodyPost_ret (v := .slice (some ⟨g, 0, none⟩) n' c) (by simp [results, Tryz.results153, go_sem]) rfl ⟨_, rfl, Or.inr ⟨g, _, HQ.out.2.2.1, ?_, HN2.out, ?_, HQ.out.2.1, ?_⟩, HF2.out.toBelow hb (fun k hk => by rw [hk]; exact HQ.out.2.2.1)⟩
    · rw [hn', HQ.out.1]
    · rw [hn']; exact HN4.out.2
    · rw [HQ.out.1]; exact HQ.out.2.2.2
end Go.Proofs.YtgpoplfgngiilaaGreatDoor
namespace Go.Proofs.YtgpoplfgngiilaaGreatDoor
set_option linter.unusedVariables false
set_option linter.unusedSimpArgs false
open Go.RowKit Go.Proofs.YtgpoplfgngiilaaGreatDoorW.PrintWords

theorem or_words {x1 x0 s t : Nat} (hst : s + t = 64) (h0 : x0 < 18446744073709551616) (h1 : x1 * 2 ^ s < 18446744073709551616) : bits .or .u64 (IntKind.u64.wrap ((x1 : Int) * 2 ^ s)) ((x0 : Int) / 2 ^ t) = ((x1 * 2 ^ s + x0 / 2 ^ t : Nat) : Int) := by
  have hMK : 2 ^ t * 2 ^ s = 18446744073709551616 := by rw [← Nat.pow_add, Nat.add_comm, hst]
  have h := or_val (s := t) (t := s) (x := x0) (y := x1) (by omega) h0
  rw [bits_or_comm, h, Nat.mod_eq_of_lt h1, Nat.add_comm]

set_option maxHeartbeats 2000000 in
set_option maxRecDepth 1000000 in
theorem divWW (x1 x0 y : Nat) (hx1 : x1 < y) (hx0 : x0 < 18446744073709551616) (hy : y < 18446744073709551616) (w : World) :
    Calls Tryz.prog 259 #[.int .u64 x1, .int .u64 x0, .int .u64 y, .int .u64 (recW (y * 2 ^ nz y))] w fun e w' => e = .returned (.tuple #[.int .u64 (((x1 * 18446744073709551616 + x0) / y : Nat) : Int), .int .u64 (((x1 * 18446744073709551616 + x0) % y : Nat) : Int)]) ∧ Fr (fun _ => False) w w' := by
  obtain ⟨z1, z2, z3, _⟩ := nz_spec (by omega) hy
  have hn := nlz_run y (by omega) hy w
  obtain ⟨s, hs⟩ : ∃ s, nz y = s := ⟨_, rfl⟩
  rw [hs] at z1 z2 z3 hn ⊢
  obtain ⟨t, hst⟩ : ∃ t, s + t = 64 := ⟨64 - s, by omega⟩
  obtain ⟨f1, f2, f3, f4⟩ := dw_words hst hx1 hx0 z3
  have hor := or_words hst hx0 f4
  obtain ⟨g1, g2⟩ := dw_shift (X := x1 * 18446744073709551616 + x0) (y := y) (p := 2 ^ s) (Nat.pow_pos (by decide))
  rw [← g1, ← g2, ← f1]
  obtain ⟨d, hd⟩ : ∃ d, y * 2 ^ s = d := ⟨_, rfl⟩
  obtain ⟨X1, hX1⟩ : ∃ d, x1 * 2 ^ s + x0 / 2 ^ t = d := ⟨_, rfl⟩
  obtain ⟨X0, hX0⟩ : ∃ d, x0 * 2 ^ s % 18446744073709551616 = d := ⟨_, rfl⟩
  have hX0l : X0 < 18446744073709551616 := by rw [← hX0]; exact Nat.mod_lt _ (by decide)
  rw [hX1] at hor f2
  rw [hd] at z2 z3 f2
  rw [hX1, hX0, hd]
  obtain ⟨m, hm⟩ : ∃ m, recW d = m := ⟨_, rfl⟩
  have hm2 : m = (18446744073709551616 * 18446744073709551616 - 1) / d - 18446744073709551616 := hm.symm
  have hmB : m < 18446744073709551616 := by
    rw [hm2]
    have : (18446744073709551616 * 18446744073709551616 - 1) / d < 2 * 18446744073709551616 := Nat.div_lt_of_lt_mul (by omega)
    omega
  rw [hm]
  obtain ⟨q, hq⟩ : ∃ q, q = m * X1 / 18446744073709551616 + X1 + (m * X1 % 18446744073709551616 + X0) / 18446744073709551616 := ⟨_, rfl⟩
  obtain ⟨R, hR⟩ : ∃ R, R = X1 * 18446744073709551616 + X0 - d * q := ⟨_, rfl⟩
  obtain ⟨k1, k2, k3, k4, k5, k6⟩ := dw_all z2 z3 hm2 f2 hX0l hq hR
  have hsum := dw_sum hq k1
  obtain ⟨r0, hr0⟩ : ∃ r, r = R % 18446744073709551616 := ⟨_, rfl⟩
  obtain ⟨r1, hr1⟩ : ∃ r, r = R / 18446744073709551616 := ⟨_, rfl⟩
  have hways := dw_ways z2 z3 k3 hr0 hr1 k4 k5 k6
  -- the calls
  have c1 := fun W => Tryz.bits_Mul m X1 hmB (Nat.lt_trans f2 z3) W
  obtain ⟨t1, ht1⟩ : ∃ r, m * X1 / 18446744073709551616 = r := ⟨_, rfl⟩
  obtain ⟨t0, ht0⟩ : ∃ r, m * X1 % 18446744073709551616 = r := ⟨_, rfl⟩
  have ht0l : t0 < 18446744073709551616 := by rw [← ht0]; exact Nat.mod_lt _ (by decide)
  have ht1l : t1 < 18446744073709551616 := by rw [← ht1]; exact Nat.div_lt_of_lt_mul (Nat.mul_lt_mul_of_lt_of_lt hmB (Nat.lt_trans f2 z3))
  rw [ht1, ht0] at hsum c1
  have c2 := fun W => bits_Add t0 X0 0 ht0l hX0l (by decide) W
  obtain ⟨c, hc⟩ : ∃ r, (t0 + X0 + 0) / 18446744073709551616 = r := ⟨_, rfl⟩
  have hcl : c ≤ 1 := by clear hways k4 k5 k6 hsum c1 c2; omega
  rw [hc] at hsum c2
  have c3 := fun W => bits_Add t1 X1 c ht1l (Nat.lt_trans f2 z3) hcl W
  rw [hsum] at c3
  have c4 := fun W => Tryz.bits_Mul d q z3 k1 W
  obtain ⟨p1, hp1⟩ : ∃ r, d * q / 18446744073709551616 = r := ⟨_, rfl⟩
  obtain ⟨p0, hp0⟩ : ∃ r, d * q % 18446744073709551616 = r := ⟨_, rfl⟩
  have hpq : p1 * 18446744073709551616 + p0 = d * q := by rw [← hp1, ← hp0, Nat.mul_comm]; exact Nat.div_add_mod _ _
  have hp0l : p0 < 18446744073709551616 := by rw [← hp0]; exact Nat.mod_lt _ (by decide)
  have hX1l : X1 < 18446744073709551616 := Nat.lt_trans f2 z3
  rw [hp1, hp0] at c4
  have c5 := fun W => bits_Sub X0 p0 0 (by decide) W
  obtain ⟨b, hb⟩ : ∃ b, b = if X0 < p0 + 0 then 1 else 0 := ⟨_, rfl⟩
  have hb' : b = if X0 < p0 then 1 else 0 := hb
  obtain ⟨e1, e2⟩ := dw_rest (x1 := X1) (x0 := X0) (p1 := p1) (p0 := p0) hX0l hp0l hX1l hb' (by rw [hpq]; exact k2)
  rw [hpq, ← hR, ← hr0] at e1
  rw [hpq, ← hR, ← hr1] at e2
  have hb1 : b ≤ 1 := by rw [hb]; split <;> decide
  rw [← hb, Nat.sub_zero, e1] at c5
  have c6 := fun W => bits_Sub X1 p1 b hb1 W
  rw [e2] at c6
  have hr0l : r0 < 18446744073709551616 := by rw [hr0]; exact Nat.mod_lt _ (by decide)
  have hquo : (X1 * 18446744073709551616 + X0) / d < 18446744073709551616 := Nat.div_lt_of_lt_mul (by
    have : (X1 + 1) * 18446744073709551616 ≤ d * 18446744073709551616 := Nat.mul_le_mul_right _ f2
    rw [Nat.add_mul] at this
    clear hways k4 k5 k6 e1 e2 k1 k2 k3 hpq hp0 hp1 hq hR hsum
    omega)
  obtain ⟨cq, hcq⟩ : ∃ z, (X1 * 18446744073709551616 + X0) / d = z := ⟨_, rfl⟩
  obtain ⟨cr, hcr⟩ : ∃ z, (X1 * 18446744073709551616 + X0) % d = z := ⟨_, rfl⟩
  rw [hcq, hcr] at hways ⊢
  rw [hcq] at hquo
  have HZ := Aside0.mk (show ((cr / 2 ^ s : Nat) : Int) = (cr : Int) / 2 ^ s by simp)
  obtain ⟨u1, hu1⟩ : ∃ z : Nat, (t0 + X0 + 0) % 18446744073709551616 = z := ⟨_, rfl⟩
  obtain ⟨u2, hu2⟩ : ∃ z : Nat, (t1 + X1 + c) / 18446744073709551616 = z := ⟨_, rfl⟩
  obtain ⟨u3, hu3⟩ : ∃ z : Nat, (if X1 < p1 + b then 1 else 0) = z := ⟨_, rfl⟩
  rw [hu1] at c2
  rw [hu2] at c3
  rw [hu3] at c6
  have hst' : (64 : Int) - (s : Int) = (t : Int) := by omega
  -- what the shift leaves
  have hsh : s ≠ 0 → IntKind.u64.wrap ((x0 : Int) * 2 ^ s) = (X0 : Int) ∧ IntKind.u64.wrap ((y : Int) * 2 ^ s) = (d : Int) := fun _ => by
    refine ⟨?_, ?_⟩
    · rw [IntKind.wrap_u64, ← hX0]; simp
    · rw [show (y : Int) * 2 ^ s = ((y * 2 ^ s : Nat) : Int) by simp, hd]
      exact wraps_u64 _ (by omega) (by clear hways k4 k5 k6 e1 e2 k1 k2 k3 hpq hp0 hp1 hq hR hsum; omega)
  have hsz : s = 0 → x1 = X1 ∧ x0 = X0 ∧ y = d := fun h => by
    subst h
    obtain rfl : t = 64 := by omega
    refine ⟨?_, ?_, ?_⟩
    · rw [← hX1]; clear hways k4 k5 k6 e1 e2 k1 k2 k3 hpq hp0 hp1 hq hR hsum; simp; omega
    · rw [← hX0]; simp; omega
    · rw [← hd]; simp
  have hqb : q + 2 < 18446744073709551616 ∨ True := Or.inr trivial
  clear e1 e2 k1 k2 k3 k4 k5 k6 hq hR hr0 hr1 hsum hpq hp0 hp1 hp0l hb hb' hb1 hcl hc ht1 ht0 ht1l ht0l hm hm2 hmB f1 f2 f3 f4 g1 g2 hX1 hX0 hcq hcr hu1 hu2 hu3 hX0l hX1l hqb
  obtain ⟨Q, hQ⟩ : ∃ z : Int, (q : Int) = z := ⟨_, rfl⟩
  obtain ⟨R0, hR0⟩ : ∃ z : Int, (r0 : Int) = z := ⟨_, rfl⟩
  obtain ⟨R1, hR1⟩ : ∃ z : Int, (r1 : Int) = z := ⟨_, rfl⟩
  obtain ⟨D, hD⟩ : ∃ z : Int, (d : Int) = z := ⟨_, rfl⟩
  obtain ⟨CQ, hCQ⟩ : ∃ z : Int, (cq : Int) = z := ⟨_, rfl⟩
  obtain ⟨CR, hCR⟩ : ∃ z : Int, (cr : Int) = z := ⟨_, rfl⟩
  rw [hQ] at c3 c4
  rw [hR0] at c5
  rw [hR1] at c6
  rw [hD] at c4 hsh
  rw [HZ.out, hCQ, hCR]
  have hw : (R1 = 0 ∧ R0 < D ∧ CQ = Q ∧ CR = R0) ∨ (R1 = 0 ∧ D ≤ R0 ∧ IntKind.u64.wrap (Q + 1) = CQ ∧ IntKind.u64.wrap (R0 - D) = CR) ∨
      (∃ E, (R1 == 0) = false ∧ E < D ∧ IntKind.u64.wrap (Q + 1) = CQ ∧ IntKind.u64.wrap (R0 - D) = CR ∧ E = CR) ∨ (∃ E F, (R1 == 0) = false ∧ D ≤ E ∧ IntKind.u64.wrap (Q + 1) = F ∧ IntKind.u64.wrap (F + 1) = CQ ∧ IntKind.u64.wrap (R0 - D) = E ∧ IntKind.u64.wrap (E - D) = CR) := by
    rcases hways with ⟨h1, h2, h3, h4⟩ | ⟨h1, h2, h3, h4⟩ | ⟨h1, h2, h3, h4, h5⟩ | ⟨h1, h2, h3, h4, h5⟩
    · exact Or.inl ⟨by omega, by omega, by omega, by omega⟩
    · refine Or.inr (Or.inl ⟨by omega, by omega, ?_, ?_⟩)
      · rw [wraps_u64 _ (by omega) (by omega)]; omega
      · rw [wraps_u64 _ (by omega) (by omega)]; omega
    · refine Or.inr (Or.inr (Or.inl ⟨CR, beq_false_of_ne (by omega), by omega, ?_, ?_, rfl⟩))
      · rw [wraps_u64 _ (by omega) (by omega)]; omega
      · rw [IntKind.wrap_u64]; omega
    · refine Or.inr (Or.inr (Or.inr ⟨R0 - D + 18446744073709551616, Q + 1, beq_false_of_ne (by omega), by omega, ?_, ?_, ?_, ?_⟩))
      · exact wraps_u64 _ (by omega) (by omega)
      · rw [wraps_u64 _ (by omega) (by omega)]; omega
      · rw [IntKind.wrap_u64]; omega
      · rw [wraps_u64 _ (by omega) (by omega)]; omega
  clear hways hQ hR0 hR1 hCQ hCR hquo hr0l
  by_cases h0 : s = 0
  · subst h0
    obtain ⟨rfl, rfl, rfl⟩ := hsz rfl
    rw [hD] at hn ⊢
    clear hsh hsz hD hd hor hst hst' hs z1 z2 z3 hx1 hx0 hy
    rcases hw with ⟨rfl, w1, rfl, rfl⟩ | ⟨rfl, w1, w2, w3⟩ | ⟨E, w0, w1, w2, w3, rfl⟩ | ⟨E, F, w0, w1, w2, w3, w4, w5⟩
    all_goals
      go_enter Tryz.func259, Tryz.ntmps259
      go_wp2_with (first | (go_at_call 160; go_must (refine hn.mono ?_); rintro e w1 ⟨rfl, rfl⟩) | (go_at_call 253; have mk := mkM; clear mk; refine (c4 _).mono ?_; rintro e w1 ⟨rfl, rfl⟩) | (go_at_call 253; refine (c1 _).mono ?_; rintro e w1 ⟨rfl, rfl⟩; have mkM := trivial) | (go_at_call 240; have mk := mkA; clear mk; refine (c3 _).mono ?_; rintro e w1 ⟨rfl, rfl⟩) | (go_at_call 240; refine (c2 _).mono ?_; rintro e w1 ⟨rfl, rfl⟩; have mkA := trivial) | (go_at_call 272; have mk := mkS; clear mk; refine (c6 _).mono ?_; rintro e w1 ⟨rfl, rfl⟩) | (go_at_call 272; refine (c5 _).mono ?_; rintro e w1 ⟨rfl, rfl⟩; have mkS := trivial))
      go_ret2
      exact ⟨by simp, by repeat (first | exact Fr.refl _ _ | apply Fr.drew | apply Fr.drewN)⟩
  · obtain ⟨hs1, hs2⟩ := hsh h0
    have hb : ((s : Int) == 0) = false := beq_false_of_ne (by omega)
    have ht64 : t < 64 := by omega
    clear hsh hsz hD hd hs z2 z3 hx1 hx0 hy h0 hst
    rcases hw with ⟨rfl, w1, rfl, rfl⟩ | ⟨rfl, w1, w2, w3⟩ | ⟨E, w0, w1, w2, w3, rfl⟩ | ⟨E, F, w0, w1, w2, w3, w4, w5⟩
    all_goals
      go_enter Tryz.func259, Tryz.ntmps259
      go_wp2_with (first | (go_at_call 160; go_must (refine hn.mono ?_); rintro e w1 ⟨rfl, rfl⟩) | (go_at_call 253; have mk := mkM; clear mk; refine (c4 _).mono ?_; rintro e w1 ⟨rfl, rfl⟩) | (go_at_call 253; refine (c1 _).mono ?_; rintro e w1 ⟨rfl, rfl⟩; have mkM := trivial) | (go_at_call 240; have mk := mkA; clear mk; refine (c3 _).mono ?_; rintro e w1 ⟨rfl, rfl⟩) | (go_at_call 240; refine (c2 _).mono ?_; rintro e w1 ⟨rfl, rfl⟩; have mkA := trivial) | (go_at_call 272; have mk := mkS; clear mk; refine (c6 _).mono ?_; rintro e w1 ⟨rfl, rfl⟩) | (go_at_call 272; refine (c5 _).mono ?_; rintro e w1 ⟨rfl, rfl⟩; have mkS := trivial))
      go_ret2
      exact ⟨by simp, by repeat (first | exact Fr.refl _ _ | apply Fr.drew | apply Fr.drewN)⟩
end Go.Proofs.YtgpoplfgngiilaaGreatDoor
namespace Go.Proofs.YtgpoplfgngiilaaGreatDoor
set_option linter.unusedVariables false
set_option linter.unusedSimpArgs false
open Go.RowKit Go.Proofs.YtgpoplfgngiilaaGreatDoorW.PrintWords

/-- The rest, and the quotient's words. -/
def dvR (y : Nat) : List Int → Nat
  | [] => 0
  | x :: r => (dvR y r * 18446744073709551616 + x.toNat) % y
def dvW (y : Nat) : List Int → List Int
  | [] => []
  | x :: r => (((dvR y r * 18446744073709551616 + x.toNat) / y : Nat) : Int) :: dvW y r
theorem dvW_length (y : Nat) : ∀ xs, (dvW y xs).length = xs.length
  | [] => rfl
  | x :: r => by simp [dvW, dvW_length y r]
theorem dvR_lt {y : Nat} (hy : 0 < y) : ∀ xs, dvR y xs < y
  | [] => hy
  | x :: r => Nat.mod_lt _ hy
theorem dv_val {y : Nat} (hy : 0 < y) : ∀ xs, valL 18446744073709551616 (dvW y xs) * y + dvR y xs = valL 18446744073709551616 xs
  | [] => by simp [dvW, dvR, valL]
  | x :: r => by
    have ih := dv_val hy r
    simp only [dvW, dvR, valL, Int.toNat_natCast]
    have h := Nat.div_add_mod (dvR y r * 18446744073709551616 + x.toNat) y
    generalize (dvR y r * 18446744073709551616 + x.toNat) / y = q at *
    generalize (dvR y r * 18446744073709551616 + x.toNat) % y = m at *
    rw [← ih, Nat.add_mul, Nat.mul_assoc, Nat.mul_add]
    rw [Nat.mul_comm y q] at h
    omega
theorem dvW_R {y : Nat} (hy : 0 < y) : ∀ xs, InR 18446744073709551616 xs → InR 18446744073709551616 (dvW y xs)
  | [], _ => fun _ h => by cases h
  | x :: r, h => by
    intro z hz
    have hx := h x (by simp)
    simp only [dvW, List.mem_cons] at hz
    rcases hz with rfl | hz
    · have h1 := dvR_lt hy r
      have h2 : (dvR y r * 18446744073709551616 + x.toNat) / y < 18446744073709551616 := Nat.div_lt_of_lt_mul (by
        have : (dvR y r + 1) * 18446744073709551616 ≤ y * 18446744073709551616 := Nat.mul_le_mul_right _ h1
        rw [Nat.add_mul] at this
        omega)
      exact ⟨Int.natCast_nonneg _, Int.ofNat_lt.2 h2⟩
    · exact dvW_R hy r (fun z hz => h z (by simp [hz])) z hz
theorem dv_div {y : Nat} (hy : 0 < y) (xs : List Int) : valL 18446744073709551616 (dvW y xs) = valL 18446744073709551616 xs / y ∧ dvR y xs = valL 18446744073709551616 xs % y := by
  have h := dv_val hy xs
  have h2 := div_unique (X := valL 18446744073709551616 xs) (d := y) (q := valL 18446744073709551616 (dvW y xs)) (r := dvR y xs) (by rw [← h, Nat.mul_comm]) (dvR_lt hy xs)
  exact ⟨h2.1.symm, h2.2.symm⟩
theorem dv_drop {y i : Nat} {xs : List Int} (h : i < xs.length) : dvW y (xs.drop i) = (((dvR y (xs.drop (i + 1)) * 18446744073709551616 + (xs[i]'h).toNat) / y : Nat) : Int) :: dvW y (xs.drop (i + 1)) ∧ dvR y (xs.drop i) = (dvR y (xs.drop (i + 1)) * 18446744073709551616 + (xs[i]'h).toNat) % y := by
  rw [List.drop_eq_getElem_cons h]
  exact ⟨rfl, rfl⟩

def DWRel (w : World) (gz : Nat) (xs zs : List Int) (y m kq : Nat) (v6 v4 : Value) (w' : World) : Prop :=
  ∃ i r : Nat, v6 = .int .i64 ((i : Int) - 1) ∧ v4 = .int .u64 r ∧ Aside0 (i ≤ m ∧ kq = i ∧ r = dvR y (xs.drop i)) ∧ Aside0 (Nb w' gz (zs.take i ++ dvW y (xs.drop i) ++ zs.drop m)) ∧ Aside0 (Fr (fun k => k = gz) w w')

theorem xat_back {w w' : World} {gz gx : Nat} {xs zs : List Int} {y m i : Nat} (hX : XAt w gz gx xs zs) (hm : m = xs.length) (hmz : m ≤ zs.length) (hi : i < xs.length) (hN : Nb w' gz (zs.take (i + 1) ++ dvW y (xs.drop (i + 1)) ++ zs.drop m)) (hF : Fr (fun k => k = gz) w w') :
    w'.cell? ⟨gx, i, none⟩ = some (.int .u64 (xs[i]'hi)) := by
  rcases hX with ⟨rfl, ht⟩ | ⟨hne, xa, hxa, ht⟩
  · obtain ⟨hz, he⟩ := take_get ht i hi
    have hlt : i < (zs.take (i + 1) ++ dvW y (xs.drop (i + 1)) ++ zs.drop m).length := by simp; omega
    rw [hN.cell i hlt]
    rw [List.getElem_append_left (by simp; omega), List.getElem_append_left (by simp; omega), List.getElem_take, he]
  · obtain ⟨hz, he⟩ := take_get ht i hi
    rw [(hxa.far hF hne).cell i hz, he]

theorem dw_set {xs zs : List Int} {y m i : Nat} (hm : m = xs.length) (hmz : m ≤ zs.length) (hi : i < m) :
    (zs.take (i + 1) ++ dvW y (xs.drop (i + 1)) ++ zs.drop m).set i (((dvR y (xs.drop (i + 1)) * 18446744073709551616 + (xs[i]'(by omega)).toNat) / y : Nat) : Int) = zs.take i ++ dvW y (xs.drop i) ++ zs.drop m := by
  rw [(dv_drop (y := y) (xs := xs) (i := i) (by omega)).1]
  have e : zs.take (i + 1) = zs.take i ++ [zs[i]'(by omega)] := by rw [List.take_add_one, List.getElem?_eq_getElem (by omega)]; rfl
  rw [e, List.append_assoc, List.append_assoc]
  have hl : (zs.take i).length = i := by simp; omega
  rw [List.set_append_right _ _ (by omega), hl, Nat.sub_self]
  simp

set_option maxHeartbeats 2000000 in
set_option maxRecDepth 1000000 in
theorem divWVW (gz gx cz cx : Nat) (xs zs : List Int) (y m : Nat) (w : World) (hm : m = xs.length) (hm0 : 0 < m) (hm2 : m ≤ 1000) (hz : m ≤ zs.length) (hR : InR 18446744073709551616 xs) (hy0 : 0 < y) (hy : y < 18446744073709551616)
    (hX : XAt w gz gx xs zs) (hZ : Nb w gz zs) :
    Calls Tryz.prog 236 #[.slice (some ⟨gz, 0, none⟩) m cz, .int .u64 0, .slice (some ⟨gx, 0, none⟩) m cx, .int .u64 y] w fun e w' =>
      e = .returned (.int .u64 ((valL 18446744073709551616 xs % y : Nat) : Int)) ∧ Nb w' gz (dvW y xs ++ zs.drop m) ∧ Fr (fun k => k = gz) w w' := by
  have HX := Aside0.mk hX
  have HR := Aside0.mk hR
  have HM := Aside0.mk (And.intro hm (And.intro hz (And.intro hy0 hy)))
  have HZ := Aside0.mk hZ
  have HD := Aside0.mk (dv_div hy0 xs)
  by_cases h1 : m = 1
  · obtain ⟨x, rfl⟩ : ∃ x : Int, xs = [x] := List.length_eq_one_iff.1 (by omega)
    have hx := hR x (by simp)
    obtain ⟨xn, rfl⟩ := Int.eq_ofNat_of_zero_le hx.1
    have hread := xat_back (y := y) (i := 0) HX.out hm hz (by simp) (by
      rw [show (zs.take (0 + 1) ++ dvW y ([(xn : Int)].drop (0 + 1)) ++ zs.drop m) = zs by
        subst h1
        simp only [dvW, List.drop_succ_cons, List.drop_zero, List.append_nil, Nat.zero_add, List.take_append_drop]]
      exact hZ) (Fr.refl _ _)
    have hcz := hZ.cell 0 (by omega)
    have hfz := hZ.frozen 0
    have hcall := fun W => bitsDiv 0 xn y (by omega) hy0 (Or.inl rfl) hy W
    rw [Nat.zero_mul, Nat.zero_add] at hcall
    have HS := Aside0.mk (hZ.set 0 ((xn / y : Nat) : Int))
    have e1 : zs.set 0 ((xn / y : Nat) : Int) = dvW y [(xn : Int)] ++ zs.drop m := by
      obtain ⟨z, zr, rfl⟩ : ∃ z zr, zs = z :: zr := by
        cases zs with
        | nil => simp at hz; omega
        | cons z zr => exact ⟨z, zr, rfl⟩
      subst h1
      simp [dvW, dvR]
    have e2 : valL 18446744073709551616 [(xn : Int)] = xn := by simp [valL]
    rw [e1] at HS
    rw [e2]
    subst h1
    obtain ⟨q, hq⟩ : ∃ q : Nat, xn / y = q := ⟨_, rfl⟩
    obtain ⟨r, hr⟩ : ∃ q : Nat, xn % y = q := ⟨_, rfl⟩
    rw [hq] at hcall HS
    rw [hr] at hcall ⊢
    replace hread : w.cell? ⟨gx, 0, none⟩ = some (.int .u64 (xn : Int)) := hread
    obtain ⟨Y, hY⟩ : ∃ Y : Int, (y : Int) = Y := ⟨_, rfl⟩
    obtain ⟨X, hX2⟩ : ∃ Y : Int, (xn : Int) = Y := ⟨_, rfl⟩
    rw [hX2] at hread
    rw [hY, hX2] at hcall
    rw [hY]
    generalize zs[0]'(by omega) = old at hcz
    clear hX hR hm hz hy0 hy hx e1 e2 hq hr hY hX2 hZ
    go_enter Tryz.func236, Tryz.ntmps236
    go_wp2_with (go_at_call 257; go_must (refine (hcall _).mono ?_); rintro e w1 ⟨rfl, nd, rfl⟩)
    go_ret
    refine ⟨rfl, ?_, ?_⟩
    · first | exact HS.out | (have := HS.out; simpa using this)
    · exact ((Fr.refl (fun k => k = gz) w).drewN nd).setCell (p := ⟨gz, 0, none⟩) (Or.inl rfl) _
  · have hb1 : ((m : Int) == 1) = false := beq_false_of_ne (by omega)
    have HREC := Aside0.mk (fun W => reciprocalWord y hy0 hy W)
    obtain ⟨rc, hrc⟩ : ∃ rc, recW (y * 2 ^ nz y) = rc := ⟨_, rfl⟩
    have HDW := Aside0.mk (fun x1 x0 h1 h0 W => divWW x1 x0 y h1 h0 hy W)
    rw [hrc] at HREC HDW
    obtain ⟨Y, hY⟩ : ∃ Y : Int, (y : Int) = Y := ⟨_, rfl⟩
    rw [hY] at HREC HDW ⊢
    clear hX hR hZ hm hz hy0 hy hY hrc h1
    go_enter Tryz.func236, Tryz.ntmps236
    go_wp2_with (go_at_call 258; go_must (refine (HREC.out _).mono ?_); rintro e w1 ⟨rfl, nd, rfl⟩)
    go_loopg [8, 12] m (fun kq v8 v12 w' => DWRel w gz xs zs y m kq v12 v8 w')
    case atStart =>
      refine ⟨m, 0, by go_num, rfl, ⟨Nat.le_refl _, rfl, ?_⟩, ⟨?_⟩, ⟨(Fr.refl _ _).drewN nd⟩⟩
      · rw [HM.out.1, List.drop_length]; rfl
      · rw [show xs.drop m = [] by rw [HM.out.1]; exact List.drop_length, dvW, List.append_nil, List.take_append_drop]
        exact HZ.out
    case round =>
      obtain ⟨i, r, rfl, rfl, HI, HN, HF⟩ := hrel
      obtain ⟨k1, k2, k3⟩ := HI.out
      cases i with
      | zero =>
        have hb : decide ((-1 : Int) ≥ 0) = false := by decide
        rw [show ((0 : Nat) : Int) - 1 = -1 by decide]
        have HK := Aside0.mk k3
        clear k1 k2 k3
        go_wp2_with fail
        go_ret
        refine ⟨by rw [HK.out, List.drop_zero, HD.out.2]; rfl, ?_, HF.out⟩
        have := HN.out
        rwa [List.take_zero, List.nil_append, List.drop_zero] at this
      | succ i =>
        have hml := HM.out.1
        have hmz := HM.out.2.1
        have hix : i < xs.length := by omega
        have hread := xat_back HX.out HM.out.1 HM.out.2.1 hix HN.out HF.out
        have hx := HR.out _ (List.getElem_mem hix)
        obtain ⟨x, hxe⟩ : ∃ x : Nat, xs[i]'hix = (x : Int) := ⟨(xs[i]'hix).toNat, by omega⟩
        obtain ⟨d1, d2⟩ := dv_drop (y := y) hix
        have hset := dw_set (zs := zs) (y := y) HM.out.1 HM.out.2.1 (show i < m by omega)
        rw [hxe] at hread hx d1 d2 hset
        rw [Int.toNat_natCast, ← k3] at d2 hset
        have hcall := fun W => HDW.out r x (by rw [k3]; exact dvR_lt HM.out.2.2.1 _) (by omega) W
        obtain ⟨q, hq⟩ : ∃ q, (r * 18446744073709551616 + x) / y = q := ⟨_, rfl⟩
        obtain ⟨r', hr'⟩ : ∃ q, (r * 18446744073709551616 + x) % y = q := ⟨_, rfl⟩
        rw [hq] at hset hcall
        rw [hr'] at d2 hcall
        have hfz := HN.out.frozen i
        have hcz := HN.out.cell i (by simp [dvW_length]; omega)
        generalize (zs.take (i + 1) ++ dvW y (xs.drop (i + 1)) ++ zs.drop m)[i]'(by simp [dvW_length]; omega) = old at hcz
        have HS2 := Aside0.mk hset
        have HK := Aside0.mk (And.intro k1 (And.intro k2 d2))
        have hi2 : ((i + 1 : Nat) : Int) - 1 = (i : Int) := by omega
        have hb : decide ((i : Int) ≥ 0) = true := by simp
        have him : (i : Int) < (m : Int) := by omega
        rw [hi2]
        clear hx hxe d1 d2 hset hq hr' k1 k2 k3 hml hix
        go_wp2_with (go_at_call 259; go_must (refine (hcall _).mono ?_); rintro e w1 ⟨rfl, hf1⟩; have HF1 := Aside0.mk hf1; have gz1 := hf1.cellv hcz (fun h => h); have gf1 := (hf1.frozen (World.block_lt_of_cell? _ _ hcz) (fun h => h)).trans hfz; have HN1 := Aside0.mk (HN.out.far hf1 (fun h => h)); clear hf1)
        go_roundg (gk - 1)
        case measure => have := HK.out; omega
        case rel =>
          obtain ⟨k1, k2, k3⟩ := HK.out
          refine ⟨i, r', by go_num, rfl, ⟨by omega, by omega, k3.symm⟩, ⟨?_⟩, ⟨(HF.out.call (S' := fun _ => False) HF1.out (fun _ h => h.elim)).setCell (p := ⟨gz, i, none⟩) (Or.inl rfl) _⟩⟩
          have h := HN1.out.set i (q : Int)
          rwa [HS2.out] at h
end Go.Proofs.YtgpoplfgngiilaaGreatDoor
