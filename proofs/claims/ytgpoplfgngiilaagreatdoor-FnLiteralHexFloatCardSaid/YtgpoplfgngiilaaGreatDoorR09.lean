/- FnLiteralHexFloat, behind its card (G2 H5 B1 N8 B2). -/
import Derived.Test.YtgpoplfgngiilaaGreatDoorR08
import Derived.Test.YtgpoplfgngiilaaGreatDoorR06
import Derived.Lib.ItoaNum
import Derived.Laws.Bits64
import Derived.Laws.BitsAllLaws
import Derived.ArgAppend
import Derived.Outline
import Derived.BigRegion
set_option linter.unusedVariables false
set_option linter.unusedSimpArgs false
namespace Go.Proofs.YtgpoplfgngiilaaGreatDoor
open Go.RowKit Go.Proofs.YtgpoplfgngiilaaGreatDoorW.PrintWords

/-- The leading zeros of a word. -/
def nz (y : Nat) : Nat := 64 - Lib.bitLen y
theorem nz_spec {y : Nat} (h0 : 0 < y) (h : y < 18446744073709551616) : nz y < 64 ∧ 9223372036854775808 ≤ y * 2 ^ nz y ∧ y * 2 ^ nz y < 18446744073709551616 ∧ Lib.bitLen y ≤ 64 := by
  have h1 := Lib.bitLenAux_bounds 64 y h (by omega)
  have h2 : Lib.bitLen y = Lib.bitLenAux 64 y := rfl
  rw [← h2] at h1
  have h3 := Lib.bitLen_le y 64 (by decide) h
  unfold nz
  generalize Lib.bitLen y = l at *
  obtain ⟨h4, h5, h6⟩ := h1
  have e1 : 2 ^ (l - 1) * 2 ^ (64 - l) = 2 ^ 63 := by rw [← Nat.pow_add]; congr 1; omega
  have e2 : 2 ^ l * 2 ^ (64 - l) = 2 ^ 64 := by rw [← Nat.pow_add]; congr 1; omega
  have hp : 0 < 2 ^ (64 - l) := Nat.pow_pos (by decide)
  refine ⟨by omega, ?_, ?_, h3⟩
  · have := Nat.mul_le_mul_right (2 ^ (64 - l)) h5
    rw [e1] at this
    exact this
  · have := Nat.mul_lt_mul_of_pos_right h6 hp
    rw [e2] at this
    exact this

set_option maxHeartbeats 800000 in
set_option maxRecDepth 1000000 in
theorem nlz_run (y : Nat) (h0 : 0 < y) (h : y < 18446744073709551616) (w : World) :
    Calls Tryz.prog 160 #[.int .u64 y] w fun e w' => e = .returned (.int .u64 (nz y)) ∧ w = w' := by
  have hc := Tryz.bits_LeadingZeros y w (by omega) (by omega)
  rw [Int.toNat_natCast] at hc
  have hb := (nz_spec h0 h).2.2.2
  have e : (64 : Int) - (Lib.bitLen y : Int) = (nz y : Int) := by unfold nz; omega
  rw [e] at hc
  have hn : nz y ≤ 64 := by unfold nz; omega
  clear e hb h0 h
  obtain ⟨Y, hY⟩ : ∃ Y : Int, (y : Int) = Y := ⟨_, rfl⟩
  obtain ⟨Z, hZ⟩ : ∃ Y : Int, (nz y : Int) = Y := ⟨_, rfl⟩
  rw [hY, hZ] at hc
  rw [hY, hZ]
  have hz0 : 0 ≤ Z ∧ Z ≤ 64 := by omega
  clear hY hZ hn
  go_enter Tryz.func160, Tryz.ntmps160
  go_wp2_with (go_at_call 215; (refine hc.mono ?_); rintro e w1 ⟨rfl, rfl⟩)
  go_ret
  exact ⟨rfl, rfl⟩

set_option maxHeartbeats 2000000 in
set_option maxRecDepth 1000000 in
theorem bits_Sub (x y b : Nat) (hb : b ≤ 1) (w : World) :
    Calls Tryz.prog 272 #[.int .u64 x, .int .u64 y, .int .u64 b] w fun e w' =>
      e = .returned (.tuple #[.int .u64 (((x + 18446744073709551616 - y - b) % 18446744073709551616 : Nat) : Int), .int .u64 ((if x < y + b then 1 else 0 : Nat) : Int)]) ∧ w = w' := by
  have h := fun w => sub64_run x y b hb w
  generalize (((x + 18446744073709551616 - y - b) % 18446744073709551616 : Nat) : Int) = lo at *
  generalize ((if x < y + b then 1 else 0 : Nat) : Int) = hi at *
  generalize (x : Int) = X at *
  generalize (y : Int) = Y at *
  generalize (b : Int) = C at *
  clear hb
  go_enter Tryz.func272, Tryz.ntmps272
  go_wp2_with (simp only [h])
  go_ret2
  exact ⟨rfl, rfl⟩

set_option maxHeartbeats 800000 in
set_option maxRecDepth 1000000 in
theorem bitsDiv (hi lo y : Nat) (hlo : lo < 18446744073709551616) (hhi : hi < y) (h : hi = 0 ∨ 9223372036854775808 ≤ y) (hy : y < 18446744073709551616) (w : World) :
    Calls Tryz.prog 257 #[.int .u64 hi, .int .u64 lo, .int .u64 y] w fun e w' => e = .returned (.tuple #[.int .u64 (((hi * 18446744073709551616 + lo) / y : Nat) : Int), .int .u64 (((hi * 18446744073709551616 + lo) % y : Nat) : Int)]) ∧ ∃ n, w' = w.drewN n := by
  have hc : Calls Tryz.prog 280 #[.int .u64 hi, .int .u64 lo, .int .u64 y] w fun e w' => e = .returned (.tuple #[.int .u64 (((hi * 18446744073709551616 + lo) / y : Nat) : Int), .int .u64 (((hi * 18446744073709551616 + lo) % y : Nat) : Int)]) ∧ ∃ n, w' = w.drewN n := by
    rcases Nat.eq_zero_or_pos hi with h0 | h0
    · subst h0
      have := bitsDiv64_0 lo y hlo hhi hy w
      rwa [Nat.zero_mul, Nat.zero_add]
    · exact bitsDiv64_n hi lo y hlo h0 hhi (h.resolve_left (by omega)) hy w
  generalize (((hi * 18446744073709551616 + lo) / y : Nat) : Int) = Q at *
  generalize (((hi * 18446744073709551616 + lo) % y : Nat) : Int) = R at *
  clear h hhi hlo hy
  generalize (hi : Int) = X at *
  generalize (lo : Int) = Y at *
  generalize (y : Int) = C at *
  go_enter Tryz.func257, Tryz.ntmps257
  go_wp2_with (go_at_call 280; (refine hc.mono ?_); rintro e w1 ⟨rfl, n, rfl⟩)
  go_ret2
  exact ⟨rfl, n, rfl⟩

theorem not_word (a : Nat) (h : a < 18446744073709551616) : bits .xor .u64 (if IntKind.u64.signed = true then -1 else IntKind.u64.max) (a : Int) = ((18446744073709551615 - a : Nat) : Int) := by
  have e0 : (if IntKind.u64.signed = true then -1 else IntKind.u64.max) = ((18446744073709551615 : Nat) : Int) := by decide
  have e1 : (BitVec.ofNat 64 a).toNat = a := by rw [BitVec.toNat_ofNat]; exact Nat.mod_eq_of_lt (by omega)
  have e2 : (BitVec.allOnes 64).toNat = 18446744073709551615 := by decide
  have e3 : 18446744073709551615 ^^^ a = (BitVec.allOnes 64 ^^^ BitVec.ofNat 64 a).toNat := by rw [BitVec.toNat_xor, e1, e2]
  rw [e0, bits_xor_u64_nat _ _ (by decide) h, e3, BitVec.allOnes_xor, BitVec.toNat_not, e1]

/-- The reciprocal of a divisor that is normalized. -/
def recW (d : Nat) : Nat := (18446744073709551616 * 18446744073709551616 - 1) / d - 18446744073709551616

theorem rec_eq {d : Nat} (h : 9223372036854775808 ≤ d) (h2 : d < 18446744073709551616) : ((18446744073709551615 - d) * 18446744073709551616 + 18446744073709551615) / d = recW d := by
  unfold recW
  have h3 : 18446744073709551616 * 18446744073709551616 - 1 = (18446744073709551615 - d) * 18446744073709551616 + 18446744073709551615 + 18446744073709551616 * d := by omega
  rw [h3, Nat.add_mul_div_right _ _ (by omega), Nat.add_sub_cancel]

set_option maxHeartbeats 800000 in
set_option maxRecDepth 1000000 in
set_option linter.unusedVariables false in
theorem reciprocalWord (y : Nat) (h0 : 0 < y) (h : y < 18446744073709551616) (w : World) :
    Calls Tryz.prog 258 #[.int .u64 y] w fun e w' => e = .returned (.int .u64 (recW (y * 2 ^ nz y))) ∧ ∃ n, w' = w.drewN n := by
  obtain ⟨z1, z2, z3, _⟩ := nz_spec h0 h
  have hn := nlz_run y h0 h w
  have hd := fun W => bitsDiv (18446744073709551615 - y * 2 ^ nz y) 18446744073709551615 (y * 2 ^ nz y) (by decide) (by omega) (Or.inr z2) z3 W
  rw [rec_eq z2 z3] at hd
  have e1 : IntKind.u64.wrap ((y : Int) * 2 ^ nz y) = ((y * 2 ^ nz y : Nat) : Int) := by
    rw [wraps_u64 _ (by simpa using Int.mul_nonneg (Int.natCast_nonneg y) (Int.pow_nonneg (by decide))) (by
      have : ((y * 2 ^ nz y : Nat) : Int) = (y : Int) * 2 ^ nz y := by simp
      omega)]
    simp
  generalize recW (y * 2 ^ nz y) = rc at *
  obtain ⟨rm, hrm⟩ : ∃ r : Nat, ((18446744073709551615 - y * 2 ^ nz y) * 18446744073709551616 + 18446744073709551615) % (y * 2 ^ nz y) = r := ⟨_, rfl⟩
  rw [hrm] at hd
  generalize y * 2 ^ nz y = d at *
  obtain ⟨x1, hx1⟩ : ∃ r : Nat, 18446744073709551615 - d = r := ⟨_, rfl⟩
  rw [hx1] at hd
  obtain ⟨X1, hX1⟩ : ∃ r : Int, (x1 : Int) = r := ⟨_, rfl⟩
  have e2 := not_word d z3
  rw [hx1, hX1] at e2
  rw [hX1] at hd
  generalize nz y = s at *
  clear hrm hx1 hX1
  go_enter Tryz.func258, Tryz.ntmps258
  go_wp2_with (first | (go_at_call 160; (refine hn.mono ?_); rintro e w1 ⟨rfl, rfl⟩) | (go_at_call 257; (refine (hd _).mono ?_); rintro e w1 ⟨rfl, n, rfl⟩))
  go_ret
  exact ⟨rfl, n, rfl⟩
end Go.Proofs.YtgpoplfgngiilaaGreatDoor
namespace Go.Proofs.YtgpoplfgngiilaaGreatDoor
set_option linter.unusedVariables false

/-- Dividend and divisor shifted: the same quotient, the rest shifted. -/
theorem dw_shift {X y p : Nat} (hp : 0 < p) : (X * p) / (y * p) = X / y ∧ (X * p) % (y * p) / p = X % y := by
  rw [Nat.mul_div_mul_right _ _ hp, Nat.mul_mod_mul_right, Nat.mul_div_cancel _ hp]
  exact ⟨rfl, rfl⟩

/-- The dividend's two words behind the shift. -/
theorem dw_words {x1 x0 y s t : Nat} (hst : s + t = 64) (hx1 : x1 < y) (hx0 : x0 < 18446744073709551616) (hy : y * 2 ^ s < 18446744073709551616) :
    (x1 * 2 ^ s + x0 / 2 ^ t) * 18446744073709551616 + x0 * 2 ^ s % 18446744073709551616 = (x1 * 18446744073709551616 + x0) * 2 ^ s ∧ x1 * 2 ^ s + x0 / 2 ^ t < y * 2 ^ s ∧ x0 / 2 ^ t < 2 ^ s ∧ x1 * 2 ^ s < 18446744073709551616 := by
  have hMK : 2 ^ s * 2 ^ t = 18446744073709551616 := by rw [← Nat.pow_add, hst]
  have hs0 : 0 < 2 ^ s := Nat.pow_pos (by decide)
  have ht0 : 0 < 2 ^ t := Nat.pow_pos (by decide)
  have h1 : x0 / 2 ^ t < 2 ^ s := Nat.div_lt_of_lt_mul (by rw [Nat.mul_comm]; omega)
  have h2 : (x1 + 1) * 2 ^ s ≤ y * 2 ^ s := Nat.mul_le_mul_right _ hx1
  have h3 := Nat.div_add_mod x0 (2 ^ t)
  have h4 : x0 * 2 ^ s % 18446744073709551616 = (x0 % 2 ^ t) * 2 ^ s := by rw [← hMK, Nat.mul_comm (2 ^ s) (2 ^ t), Nat.mul_mod_mul_right]
  generalize 2 ^ s = P at *
  generalize 2 ^ t = T at *
  refine ⟨?_, by rw [Nat.add_mul] at h2; omega, h1, by rw [Nat.add_mul] at h2; omega⟩
  rw [h4, Nat.add_mul, Nat.add_mul, ← hMK]
  have h5 : x0 * P = x0 / T * (P * T) + x0 % T * P := by
    conv => lhs; rw [← h3]
    rw [Nat.add_mul, Nat.mul_comm T, Nat.mul_assoc, Nat.mul_comm T P]
  rw [h5, Nat.mul_right_comm x1]
  omega

/-- The words of the guess. -/
theorem dw_sum {m X1 X0 q : Nat} (hq : q = m * X1 / 18446744073709551616 + X1 + (m * X1 % 18446744073709551616 + X0) / 18446744073709551616) (hqB : q < 18446744073709551616) :
    (m * X1 / 18446744073709551616 + X1 + (m * X1 % 18446744073709551616 + X0 + 0) / 18446744073709551616) % 18446744073709551616 = q := by
  rw [Nat.add_zero, ← hq]
  exact Nat.mod_eq_of_lt hqB

/-- The four ways out. -/
theorem dw_ways {d X q R r0 r1 : Nat} (hd : 9223372036854775808 ≤ d) (hd2 : d < 18446744073709551616) (hR2 : R < 18446744073709551616 + d) (h0 : r0 = R % 18446744073709551616) (h1 : r1 = R / 18446744073709551616)
    (k1 : R < d → X / d = q ∧ X % d = R) (k2 : d ≤ R → R < 2 * d → X / d = q + 1 ∧ X % d = R - d) (k3 : 2 * d ≤ R → X / d = q + 2 ∧ X % d = R - 2 * d) :
    (r1 = 0 ∧ r0 < d ∧ X / d = q ∧ X % d = r0) ∨ (r1 = 0 ∧ d ≤ r0 ∧ X / d = q + 1 ∧ X % d = r0 - d) ∨
    (r1 ≠ 0 ∧ (r0 + 18446744073709551616 - d) < d ∧ r0 < d ∧ X / d = q + 1 ∧ X % d = r0 + 18446744073709551616 - d) ∨ (r1 ≠ 0 ∧ d ≤ r0 + 18446744073709551616 - d ∧ r0 < d ∧ X / d = q + 2 ∧ X % d = r0 + 18446744073709551616 - d - d) := by
  by_cases hB : R < 18446744073709551616
  · have e0 : r0 = R := by omega
    have e1 : r1 = 0 := by omega
    by_cases h : R < d
    · obtain ⟨a, b⟩ := k1 h
      exact Or.inl ⟨e1, by omega, a, by omega⟩
    · obtain ⟨a, b⟩ := k2 (by omega) (by omega)
      exact Or.inr (Or.inl ⟨e1, by omega, a, by omega⟩)
  · have e0 : r0 = R - 18446744073709551616 := by omega
    have e1 : r1 ≠ 0 := by omega
    by_cases h : R < 2 * d
    · obtain ⟨a, b⟩ := k2 (by omega) h
      exact Or.inr (Or.inr (Or.inl ⟨e1, by omega, by omega, a, by omega⟩))
    · obtain ⟨a, b⟩ := k3 (by omega)
      exact Or.inr (Or.inr (Or.inr ⟨e1, by omega, by omega, a, by omega⟩))
end Go.Proofs.YtgpoplfgngiilaaGreatDoor
namespace Go.Proofs.YtgpoplfgngiilaaGreatDoor
open Go.RowKit Go.Proofs.YtgpoplfgngiilaaGreatDoorW.PrintWords

/-- The word of index j behind a shift by log2 M (M * K = 2^64). -/
def shE (xs : List Int) (M K j : Nat) : Nat := (xs[j]?.getD 0).toNat / M + ((xs[j + 1]?.getD 0).toNat * K) % 18446744073709551616
def shW (xs : List Int) (M K n : Nat) : List Int := (List.range n).map fun j => ((shE xs M K j : Nat) : Int)

theorem shW_length (xs : List Int) (M K n : Nat) : (shW xs M K n).length = n := by simp [shW]
theorem shW_cons (x : Int) (ys : List Int) (M K n : Nat) : shW (x :: ys) M K (n + 1) = ((shE (x :: ys) M K 0 : Nat) : Int) :: shW ys M K n := by
  unfold shW
  rw [List.range_succ_eq_map, List.map_cons, List.map_map]
  rfl
theorem shW_snoc (xs : List Int) (M K n : Nat) : shW xs M K (n + 1) = shW xs M K n ++ [((shE xs M K n : Nat) : Int)] := by
  unfold shW
  rw [List.range_succ, List.map_append]
  rfl

theorem shW_val {M K : Nat} (hMK : M * K = 18446744073709551616) (hM : 0 < M) : ∀ xs : List Int, valL 18446744073709551616 (shW xs M K xs.length) = valL 18446744073709551616 xs / M
  | [] => by simp [shW, valL]
  | x :: ys => by
    have ih := shW_val hMK hM ys
    rw [List.length_cons, shW_cons]
    simp only [valL]
    rw [ih, Int.toNat_natCast]
    have h1 : (x.toNat + 18446744073709551616 * valL 18446744073709551616 ys) / M = x.toNat / M + K * valL 18446744073709551616 ys := by
      rw [← hMK, Nat.mul_assoc, Nat.add_mul_div_left _ _ hM]
    rw [h1]
    have h2 : shE (x :: ys) M K 0 = x.toNat / M + (valL 18446744073709551616 ys % M) * K := by
      unfold shE
      simp only [List.getElem?_cons_zero, Option.getD_some, List.getElem?_cons_succ, Nat.zero_add]
      congr 1
      cases ys with
      | nil => simp [valL]
      | cons y zs =>
        simp only [List.getElem?_cons_zero, Option.getD_some, valL]
        rw [show (18446744073709551616 : Nat) = M * K from hMK.symm, Nat.mul_mod_mul_right, Nat.mul_assoc, Nat.add_mul_mod_self_left]
    rw [h2]
    have h3 := Nat.div_add_mod (valL 18446744073709551616 ys) M
    generalize valL 18446744073709551616 ys = V at *
    rw [← hMK]
    have h4 : K * V = K * (M * (V / M)) + K * (V % M) := by rw [← Nat.mul_add, h3]
    rw [h4, Nat.mul_comm (V % M) K, Nat.mul_comm M K, Nat.mul_assoc]
    omega

theorem shE_lt {M K : Nat} (hMK : M * K = 18446744073709551616) (hM : 0 < M) (hK : 0 < K) (xs : List Int) (hR : InR 18446744073709551616 xs) (j : Nat) : shE xs M K j < 18446744073709551616 := by
  have g : ∀ j : Nat, (xs[j]?.getD 0).toNat < 18446744073709551616 := by
    intro j
    cases h : xs[j]? with
    | none => simp
    | some x =>
      have := hR x (List.mem_of_getElem? h)
      simp only [Option.getD_some]
      omega
  unfold shE
  have h1 : (xs[j]?.getD 0).toNat / M < K := Nat.div_lt_of_lt_mul (by rw [hMK]; exact g j)
  generalize (xs[j]?.getD 0).toNat / M = p at *
  generalize (xs[j + 1]?.getD 0).toNat = q at *
  have h2 : (q * K) % 18446744073709551616 = (q % M) * K := by rw [← hMK, Nat.mul_mod_mul_right]
  rw [h2]
  have h3 : (q % M + 1) * K ≤ M * K := Nat.mul_le_mul_right K (Nat.mod_lt q hM)
  rw [hMK, Nat.add_mul] at h3
  omega
theorem shW_R {M K : Nat} (hMK : M * K = 18446744073709551616) (hM : 0 < M) (hK : 0 < K) (xs : List Int) (hR : InR 18446744073709551616 xs) (n : Nat) : InR 18446744073709551616 (shW xs M K n) := by
  intro z hz
  unfold shW at hz
  obtain ⟨j, _, rfl⟩ := List.mem_map.1 hz
  have := shE_lt hMK hM hK xs hR j
  omega

/-- What the code writes: the two parts joined bit by bit. -/
theorem sh_or {s t x y : Nat} (hst : s + t = 64) (hx : x < 18446744073709551616) : (x / 2 ^ s) ||| ((y * 2 ^ t) % 18446744073709551616) = x / 2 ^ s + (y * 2 ^ t) % 18446744073709551616 := by
  have hMK : 2 ^ s * 2 ^ t = 18446744073709551616 := by rw [← Nat.pow_add, hst]
  have h2 : (y * 2 ^ t) % 18446744073709551616 = (y % 2 ^ s) * 2 ^ t := by rw [← hMK, Nat.mul_mod_mul_right]
  have h1 : x / 2 ^ s < 2 ^ t := Nat.div_lt_of_lt_mul (by rw [hMK]; exact hx)
  rw [h2, Nat.add_comm, Nat.or_comm, ← Nat.shiftLeft_eq, Nat.shiftLeft_add_eq_or_of_lt h1]

/-- A row whose first m words are turned round as far as i. -/
def revS (ys : List Int) (m i : Nat) : List Int := (List.range ys.length).map fun k => if k < m ∧ (k < i ∨ m ≤ k + i) then ys[m - 1 - k]?.getD 0 else ys[k]?.getD 0
theorem revS_length (ys : List Int) (m i : Nat) : (revS ys m i).length = ys.length := by simp [revS]
theorem revS_get (ys : List Int) (m i k : Nat) (h : k < (revS ys m i).length) : (revS ys m i)[k]'h = if k < m ∧ (k < i ∨ m ≤ k + i) then ys[m - 1 - k]?.getD 0 else ys[k]?.getD 0 := by
  simp [revS]
theorem revS_zero (ys : List Int) (m : Nat) : revS ys m 0 = ys := by
  apply List.ext_getElem (by simp [revS])
  intro k h1 h2
  rw [revS_get, if_neg (by omega), List.getElem?_eq_getElem h2]
  rfl
theorem revS_lo {ys : List Int} {m i : Nat} (hm : m ≤ ys.length) (hi : 2 * i + 1 < m) (h : i < (revS ys m i).length) : (revS ys m i)[i]'h = ys[i]?.getD 0 := by
  rw [revS_get, if_neg (by omega)]
theorem revS_hi {ys : List Int} {m i j : Nat} (hm : m ≤ ys.length) (hi : 2 * i + 1 < m) (hj : j = m - 1 - i) (h : j < (revS ys m i).length) : (revS ys m i)[j]'h = ys[j]?.getD 0 := by
  rw [revS_get, if_neg (by omega)]
theorem revS_step {ys : List Int} {m i j : Nat} (hm : m ≤ ys.length) (hi : 2 * i + 1 < m) (hj : j = m - 1 - i) : ((revS ys m i).set i (ys[j]?.getD 0)).set j (ys[i]?.getD 0) = revS ys m (i + 1) := by
  apply List.ext_getElem (by simp [revS])
  intro k h1 h2
  rw [revS_get, List.getElem_set, List.getElem_set]
  by_cases hkj : j = k
  · subst hkj
    rw [if_pos rfl, if_pos (by omega), show m - 1 - j = i by omega]
  · rw [if_neg hkj]
    by_cases hki : i = k
    · subst hki
      rw [if_pos rfl, if_pos (by omega), hj]
    · rw [if_neg hki, revS_get]
      by_cases hc : k < m ∧ (k < i ∨ m ≤ k + i)
      · rw [if_pos hc, if_pos (by omega)]
      · rw [if_neg hc, if_neg (by omega)]
theorem revS_done {ys : List Int} {m i : Nat} (hm : m ≤ ys.length) (hi : m ≤ 2 * i + 1) (him : i ≤ m) : revS ys m i = (ys.take m).reverse ++ ys.drop m := by
  apply List.ext_getElem (by simp [revS]; omega)
  intro k h1 h2
  rw [revS_get]
  rw [revS_length] at h1
  by_cases hk : k < m
  · rw [List.getElem_append_left (by simp; omega), List.getElem_reverse, List.getElem_take]
    have e : (ys.take m).length - 1 - k = m - 1 - k := by rw [List.length_take]; omega
    simp only [e]
    by_cases hc : k < m ∧ (k < i ∨ m ≤ k + i)
    · rw [if_pos hc, List.getElem?_eq_getElem (by omega)]
      rfl
    · rw [if_neg hc]
      have e2 : m - 1 - k = k := by omega
      rw [List.getElem?_eq_getElem (by omega)]
      simp only [e2, Option.getD_some]
  · rw [if_neg (by omega), List.getElem_append_right (by simp; omega), List.getElem_drop, List.getElem?_eq_getElem (by omega)]
    simp only [Option.getD_some]
    congr 1
    rw [List.length_reverse, List.length_take]
    omega

/-- Words, the greatest first. -/
theorem valR_snoc (zs : List Int) (d : Nat) : valL 18446744073709551616 (zs ++ [(d : Int)]).reverse = valL 18446744073709551616 zs.reverse * 18446744073709551616 + d := by
  rw [List.reverse_append]
  show valL _ ((d : Int) :: zs.reverse) = _
  simp only [valL, Int.toNat_natCast]
  rw [Nat.mul_comm, Nat.add_comm]
end Go.Proofs.YtgpoplfgngiilaaGreatDoor
namespace Go.Proofs.YtgpoplfgngiilaaGreatDoor
open Go.RowKit Go.Proofs.YtgpoplfgngiilaaGreatDoorW.PrintWords

theorem zc_words (n : Nat) : Builtin.zeroCells (Value.int .u64 0).cells n = ((List.replicate n (0 : Int)).map (Value.int .u64)).toArray := by
  apply Array.ext
  · simp [Builtin.zeroCells, Value.cells]
  · intro i h1 h2
    simp [Builtin.zeroCells, Value.cells, Nat.mod_one]

theorem app_run (base : Nat) (v : Value) (xs : List Int) (y : Int) (ad : Addr) (c ty : Nat) (w : World) (hV : NV base w v xs) (hy : w.cell? ad = some (.int .u64 y)) (hy0 : 0 ≤ y ∧ y < 18446744073709551616) (hl : xs.length ≤ 100000) (hb : base ≤ w.heap.size) (hR : InR 18446744073709551616 xs) :
    ∃ v' w', (Builtin.append_ #[114, 114] ty #[v, .slice (some ad) 1 c]).run Tryz.prog w = .ok v' w' ∧ NV base w' v' (xs ++ [y]) ∧ Below base w w' := by
  have hnews : ∀ j u, [Value.int .u64 y][j]? = some u → w.cell? (ad.add j) = some u := by
    intro j u h
    cases j with
    | zero =>
      have : u = .int .u64 y := by simpa using h.symm
      rw [this]
      simpa [Addr.add_zero'] using hy
    | succ j => simp at h
  have hRy : InR 18446744073709551616 [y] := by
    intro z hz
    simp only [List.mem_singleton] at hz
    subst hz
    exact hy0
  have hml : maxLen = 9223372036854775807 := rfl
  rcases hV with ⟨rfl, rfl⟩ | ⟨g, ys, h1, rfl, h3, h4, h5, h6⟩
  · have hr := run_append_nil (P := Tryz.prog) w 114 ty 167 Tryz.t167 (.int .u64 0) Tryz.underlying114 (by kernel_rfl) (by kernel_rfl) ad 1 c [.int .u64 y] rfl hnews (by decide) (by decide) (by decide)
    have h7 := grownCap_ge w 1 0 167
    have h8 := grownCap_le_maxLen w 1 0 167 (by decide)
    generalize grownCap w 1 0 167 = C at *
    refine ⟨_, _, hr, Or.inr ⟨w.heap.size, [y] ++ List.replicate (C - 1) 0, hb, ?_, ?_, rfl, InR_append hRy (InR_replicate _), ?_⟩, ?_⟩
    · have e : ([y] ++ List.replicate (C - 1) 0).length = C := by simp; omega
      rw [e]; rfl
    · unfold Nb
      rw [zc_words]
      have := heap_alloc_new w.drew (.cells ([Value.int .u64 y].toArray ++ ((List.replicate (C - 1) (0 : Int)).map (Value.int .u64)).toArray) 167)
      rw [show w.drew.heap.size = w.heap.size from rfl] at this
      rw [this]
      simp
    · simp; omega
    · exact (below_drew1 (Below.refl base w)).alloc hb _
  · have hle : xs.length ≤ ys.length := by have := congrArg List.length h4; rw [List.length_take] at this; omega
    have hcell : ∀ i, (hi : i < xs.length) → w.cell? ⟨g, i, none⟩ = some (.int .u64 (xs[i]'hi)) := by
      intro i hi
      obtain ⟨hz, he⟩ := take_get h4 i hi
      rw [h3.cell i hz, he]
    by_cases hc : xs.length + 1 ≤ ys.length
    · have hr := run_append_room_cells (P := Tryz.prog) w 114 ty 167 Tryz.t167 Tryz.underlying114 (by kernel_rfl) g 0 xs.length ys.length ad 1 c [.int .u64 y] rfl hnews (by simp [Value.oneCell']) hc
        (by intro j hj
            have : j = 0 := by simpa using hj
            subst this
            have := h3.cell xs.length (by omega)
            rw [show 0 + xs.length * Tryz.t167.size + 0 = xs.length by rw [show Tryz.t167.size = 1 from rfl]; omega, this]
            rfl)
        (by intro j hj
            have : j = 0 := by simpa using hj
            subst this
            rw [show 0 + xs.length * Tryz.t167.size + 0 = xs.length by rw [show Tryz.t167.size = 1 from rfl]; omega]
            exact h3.frozen _)
      rw [show 0 + xs.length * Tryz.t167.size = xs.length by rw [show Tryz.t167.size = 1 from rfl]; omega] at hr
      have hset : w.setCells g xs.length [.int .u64 y] = w.setCell ⟨g, xs.length, none⟩ (.int .u64 y) := rfl
      rw [hset] at hr
      refine ⟨_, _, hr, Or.inr ⟨g, ys.set xs.length y, h1, ?_, h3.set _ _, ?_, ?_, ?_⟩, ?_⟩
      · simp
      · rw [List.length_append, List.length_singleton, List.take_set, List.take_add_one, List.getElem?_eq_getElem (by omega)]
        rw [h4]
        simp
      · intro z hz
        rcases List.mem_or_eq_of_mem_set hz with h | h
        · exact h5 z h
        · rw [h]; exact hy0
      · rw [List.length_set]; exact h6
      · exact (Below.refl base w).setCell (p := ⟨g, xs.length, none⟩) h1 _
    · have hxy : xs.length = ys.length := by omega
      have hb : (xs.length + 1) * Tryz.t167.bytes ≤ 140737488355328 := by rw [show Tryz.t167.bytes = 8 from rfl]; omega
      have hr := run_append_grow (P := Tryz.prog) w 114 ty 167 Tryz.t167 (.int .u64 0) Tryz.underlying114 (by kernel_rfl) (by kernel_rfl) ⟨g, 0, none⟩ xs.length ys.length (xs.map (Value.int .u64)) (by simp [show Tryz.t167.size = 1 from rfl])
        (by intro j u hj
            rw [List.getElem?_map] at hj
            obtain ⟨z, hz, rfl⟩ := Option.map_eq_some_iff.1 hj
            obtain ⟨hi, he⟩ := List.getElem?_eq_some_iff.1 hz
            rw [Addr.add_lit, Nat.zero_add, hcell j hi, he])
        ad 1 c [.int .u64 y] rfl hnews (by omega) (by omega) (growslice_fits (by omega) hb)
      have h7 := grownCap_ge w (xs.length + 1) ys.length 167
      have h8 := grownCap_le_maxLen w (xs.length + 1) ys.length 167 (by omega)
      generalize grownCap w (xs.length + 1) ys.length 167 = C at *
      refine ⟨_, _, hr, Or.inr ⟨w.heap.size, (xs ++ [y]) ++ List.replicate (C - (xs.length + 1)) 0, ‹base ≤ w.heap.size›, ?_, ?_, ?_, InR_append (InR_append hR hRy) (InR_replicate _), ?_⟩, ?_⟩
      · have e : ((xs ++ [y]) ++ List.replicate (C - (xs.length + 1)) 0).length = C := by simp; omega
        rw [e]; simp
      · unfold Nb
        rw [zc_words]
        have := heap_alloc_new w.drew (.cells ((xs.map (Value.int .u64)).toArray ++ [Value.int .u64 y].toArray ++ ((List.replicate (C - (xs.length + 1)) (0 : Int)).map (Value.int .u64)).toArray) 167)
        rw [show w.drew.heap.size = w.heap.size from rfl] at this
        rw [this]
        simp
      · exact List.take_left
      · simp; omega
      · exact (below_drew1 (Below.refl base w)).alloc ‹base ≤ w.heap.size› _

/-- 'append' of one word to a row of one's own, for the walk. -/
theorem wpList_append_NV {ops : Array Oper} {rest : List Oper} {o : Oper} {a : Act} {Q : Exit → Act → World → Prop} (w : World)
    (hg : o.guard = none) (s x : Operand) (hop : o.op = Op.call { callee := Callee.builtin Builtin.append, args := #[s, x], argTypes := #[114, 114] })
    (base : Nat) (v : Value) (xs : List Int) (y : Int) (ad : Addr) (c : Nat) (hs : a.eval s = v) (hx : a.eval x = .slice (some ad) 1 c) (hV : NV base w v xs) (hy : w.cell? ad = some (.int .u64 y)) (hy0 : 0 ≤ y ∧ y < 18446744073709551616)
    (hl : xs.length ≤ 100000) (hb : base ≤ w.heap.size) (hR : InR 18446744073709551616 xs)
    (hK : ∀ v' w', NV base w' v' (xs ++ [y]) → Below base w w' → wpList Tryz.prog ops Q rest (a.put o.dst v') w') : wpList Tryz.prog ops Q (o :: rest) a w := by
  refine wpList_plain hg fun K hK' => ?_
  obtain ⟨v', w', hrun, r1, r2⟩ := app_run base v xs y ad c o.type w hV hy hy0 hl hb hR
  unfold Oper.wp
  simp [execOp, hop, resolve, invoke, builtin, hs, hx, hrun, Result.andThen]
  exact hK' _ _ (hK v' w' r1 r2)
end Go.Proofs.YtgpoplfgngiilaaGreatDoor
namespace Go.Proofs.YtgpoplfgngiilaaGreatDoor
open Go.RowKit Go.Proofs.YtgpoplfgngiilaaGreatDoorW.PrintWords

theorem InR_reverse {B : Nat} {xs : List Int} (h : InR B xs) : InR B xs.reverse := fun z hz => h z (List.mem_reverse.1 hz)
theorem InR_take {B : Nat} {xs : List Int} (h : InR B xs) (n : Nat) : InR B (xs.take n) := fun z hz => h z (List.mem_of_mem_take hz)

def VRel (ys : List Int) (g m kq : Nat) (v2 v3 : Value) (w w' : World) : Prop :=
  ∃ (i : Nat) (j : Int), v2 = .int .i64 i ∧ v3 = .int .i64 j ∧ Aside0 (2 * i ≤ m ∧ kq = m - i ∧ j = (m : Int) - 1 - i) ∧ Aside0 (Nb w' g (revS ys m i)) ∧ Aside0 (Fr (fun k => k = g) w w')

set_option maxHeartbeats 2000000 in
set_option maxRecDepth 1000000 in
theorem rev_run (g c m : Nat) (ys : List Int) (w : World) (hm : m ≤ ys.length) (hc : m ≤ c) (hm2 : m ≤ 1000000) (hZ : Nb w g ys) :
    Calls Tryz.prog 152 #[.slice (some ⟨g, 0, none⟩) m c] w fun e w' => e = .returned (.tuple #[]) ∧ Nb w' g ((ys.take m).reverse ++ ys.drop m) ∧ Fr (fun k => k = g) w w' := by
  have HZ := Aside0.mk hZ
  have HM := Aside0.mk hm
  clear hZ hm
  go_enter Tryz.func152, Tryz.ntmps152
  go_wp2_with fail
  go_loopg [2, 3] m (fun kq v2 v3 w' => VRel ys g m kq v2 v3 w w')
  case atStart => exact ⟨0, (m : Int) - 1, rfl, by go_num, ⟨by omega, by omega, by omega⟩, ⟨by rw [revS_zero]; exact HZ.out⟩, ⟨Fr.refl _ _⟩⟩
  case round =>
    obtain ⟨i, j, rfl, rfl, HI, HN, HF⟩ := hrel
    by_cases hlt : 2 * i + 1 < m
    · obtain ⟨jn, rfl⟩ : ∃ jn : Nat, j = (jn : Int) := ⟨j.toNat, by have := HI.out; omega⟩
      have hjn : jn = m - 1 - i := by have := HI.out; omega
      have hb : decide (i < jn) = true := by simp; omega
      have hi1 : i < m := by omega
      have hj1 : jn < m := by omega
      have hli : i < (revS ys m i).length := by rw [revS_length]; have := HM.out; omega
      have hlj : jn < (revS ys m i).length := by rw [revS_length]; have := HM.out; omega
      have hci := HN.out.cell i hli
      have hcj := HN.out.cell jn hlj
      rw [revS_lo HM.out hlt hli] at hci
      rw [revS_hi HM.out hlt hjn hlj] at hcj
      have hfi := HN.out.frozen i
      have hfj := HN.out.frozen jn
      have HS := Aside0.mk (revS_step HM.out hlt hjn)
      obtain ⟨xi, hxi⟩ : ∃ x, ys[i]?.getD 0 = x := ⟨_, rfl⟩
      obtain ⟨xj, hxj⟩ : ∃ x, ys[jn]?.getD 0 = x := ⟨_, rfl⟩
      rw [hxi] at hci HS
      rw [hxj] at hcj HS
      clear hxi hxj
      have hcj2 : (wr.setCell ⟨g, i, none⟩ (.int .u64 xj)).cell? ⟨g, jn, none⟩ = some (.int .u64 xj) := by
        have h1 := (HN.out.set i xj).cell jn (by rw [List.length_set]; exact hlj)
        rw [h1, List.getElem_set_ne (by omega)]
        have h2 := HN.out.cell jn hlj
        rw [hcj] at h2
        exact h2.symm
      have HL := Aside0.mk (And.intro hlt hjn)
      clear hlt hli hlj hjn
      go_wp2_with fail
      go_region
      go_wp2_with fail
      go_roundg (gk - 1)
      case measure => have := HI.out; have := HL.out; omega
      case rel =>
        refine ⟨i + 1, (jn : Int) - 1, by go_num, by go_num, ⟨by have := HL.out; omega, by have := HI.out; have := HL.out; omega, by have := HI.out; omega⟩, ⟨?_⟩, ⟨?_⟩⟩
        · rw [← HS.out]; exact (HN.out.set i xj).set jn xi
        · exact ((HF.out.setCell (p := ⟨g, i, none⟩) (Or.inl rfl) _).setCell (p := ⟨g, jn, none⟩) (Or.inl rfl) _).drew
    · have hb : decide ((i : Int) < j) = false := by have := HI.out; simp; omega
      have HD := Aside0.mk (revS_done (ys := ys) HM.out (show m ≤ 2 * i + 1 by omega) (by have := HI.out; omega))
      clear hlt
      go_wp2_with fail
      go_end0
      exact ⟨rfl, by rw [← HD.out]; exact HN.out, HF.out⟩

/-- slices.Reverse of a slice of one's own. -/
theorem rev_NV (base : Nat) (v : Value) (xs : List Int) (w : World) (hV : NV base w v xs) (h0 : 0 < xs.length) (hl : xs.length ≤ 1000) (hb : base ≤ w.heap.size) :
    Calls Tryz.prog 152 #[v] w fun e w' => e = .returned (.tuple #[]) ∧ NV base w' v xs.reverse ∧ Below base w w' := by
  rcases hV with ⟨_, h⟩ | ⟨g, ys, h1, rfl, h3, h4, h5, h6⟩
  · rw [h] at h0; exact absurd h0 (by simp)
  · have hle : xs.length ≤ ys.length := by have := congrArg List.length h4; rw [List.length_take] at this; omega
    refine (rev_run g ys.length xs.length ys w hle hle (by omega) h3).mono ?_
    rintro e w' ⟨rfl, hn, hf⟩
    rw [h4] at hn
    refine ⟨rfl, Or.inr ⟨g, xs.reverse ++ ys.drop xs.length, h1, ?_, hn, ?_, InR_append (InR_reverse (h4 ▸ InR_take h5 _)) (InR_drop h5 _), ?_⟩, hf.toBelow hb (fun k hk => by rw [hk]; exact h1)⟩
    · have e : (xs.reverse ++ ys.drop xs.length).length = ys.length := by simp; omega
      rw [e, List.length_reverse]
    · exact List.take_left
    · have e : (xs.reverse ++ ys.drop xs.length).length = ys.length := by simp; omega
      rw [e]; exact h6

/-- norm of a slice of one's own. -/
theorem norm_NV (base : Nat) (v : Value) (xs : List Int) (w : World) (hV : NV base w v xs) (h0 : 0 < xs.length) (hl : xs.length ≤ 1000) :
    Calls Tryz.prog 134 #[v] w fun e w' => ∃ v', e = .returned v' ∧ NV base w' v' (lits 18446744073709551616 (valL 18446744073709551616 xs)) ∧ (lits 18446744073709551616 (valL 18446744073709551616 xs)).length ≤ xs.length ∧ w = w' := by
  rcases hV with ⟨_, h⟩ | ⟨g, ys, h1, rfl, h3, h4, h5, h6⟩
  · rw [h] at h0; exact absurd h0 (by simp)
  · have hle : xs.length ≤ ys.length := by have := congrArg List.length h4; rw [List.length_take] at this; omega
    refine (norm_calls g ys.length xs.length ys w hle hle (by omega) h5 h3).mono ?_
    rintro e w' ⟨n', rfl, hn, ht, rfl⟩
    rw [h4] at ht
    have hn' : (lits 18446744073709551616 (valL 18446744073709551616 xs)).length = n' := by rw [← ht, List.length_take]; omega
    refine ⟨_, rfl, Or.inr ⟨g, ys, h1, ?_, h3, ?_, h5, h6⟩, by omega, rfl⟩
    · rw [hn']
    · rw [hn', ht]

theorem scanb_end {b n i d X V sh : Nat} (hb : b ^ n = 18446744073709551616) (hb2 : b = 2 ^ sh) (hi : i ≤ n) (hd : d < b ^ i) (hX : X * b ^ i + d = V) :
    d * b ^ (n - i) < 18446744073709551616 ∧ X * 18446744073709551616 + d * b ^ (n - i) = V * b ^ (n - i) ∧ V * b ^ (n - i) / 2 ^ ((n - i) * sh) = V := by
  have h1 : b ^ i * b ^ (n - i) = 18446744073709551616 := by rw [← Nat.pow_add, show i + (n - i) = n by omega, hb]
  have h0 : 0 < b ^ (n - i) := by
    rcases Nat.eq_zero_or_pos (b ^ (n - i)) with h | h
    · rw [h] at h1; omega
    · exact h
  refine ⟨?_, ?_, ?_⟩
  · rw [← h1]; exact Nat.mul_lt_mul_of_pos_right hd h0
  · rw [← hX, Nat.add_mul, Nat.mul_assoc, h1]
  · rw [show 2 ^ ((n - i) * sh) = b ^ (n - i) by rw [hb2, ← Nat.pow_mul, Nat.mul_comm]]
    exact Nat.mul_div_cancel V h0

theorem scanb_full {b n d x P : Nat} {D : Int} {zs : List Int} (hb : b ^ (n + 1) = 18446744073709551616) (hsum : valL 18446744073709551616 zs.reverse * b ^ (n + 1) + (d * b + x) = P) (hR : InR 18446744073709551616 zs) (hbd : d * b + x < 18446744073709551616) (hE : D = ((d * b + x : Nat) : Int)) :
    valL 18446744073709551616 (zs ++ [D]).reverse * b ^ 0 + 0 = P ∧ InR 18446744073709551616 (zs ++ [D]) := by
  refine ⟨?_, ?_⟩
  · rw [hE, valR_snoc, Nat.pow_zero, Nat.mul_one, Nat.add_zero, ← hsum, hb]
  · refine InR_append hR ?_
    intro z hz
    simp only [List.mem_singleton] at hz
    omega
end Go.Proofs.YtgpoplfgngiilaaGreatDoor
