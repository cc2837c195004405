/- FnLiteralHexFloat, behind its card (H1 H2 H3 H4). -/
import Derived.Laws.BitsAllLaws
set_option linter.unusedVariables false
set_option linter.unusedSimpArgs false
namespace Go.Proofs.YtgpoplfgngiilaaGreatDoor

/-- The guess q by the reciprocal v is at most the quotient, and low by little. -/
theorem recip_div {B d v x1 x0 q : Nat} (hd0 : 0 < d) (hd : d ≤ B) (hv1 : v * d ≤ B * B) (hv2 : B * B ≤ v * d + d) (hx1 : x1 < d) (hx0 : x0 < B) (hq1 : q * B ≤ v * x1 + x0) (hq2 : v * x1 + x0 < q * B + B) :
    d * q ≤ x1 * B + x0 ∧ x1 * B + x0 < d * q + B + d := by
  have hB : 0 < B := by omega
  have a1 : d * (q * B) ≤ d * (v * x1 + x0) := Nat.mul_le_mul_left d hq1
  have a2 : (v * d) * x1 ≤ (B * B) * x1 := Nat.mul_le_mul_right x1 hv1
  have a3 : d * x0 ≤ B * x0 := Nat.mul_le_mul_right x0 hd
  have e1 : d * (v * x1 + x0) = (v * d) * x1 + d * x0 := by rw [Nat.mul_add, ← Nat.mul_assoc, Nat.mul_comm d v]
  have e2 : d * (q * B) = (d * q) * B := by rw [Nat.mul_assoc]
  have e3 : (x1 * B + x0) * B = (B * B) * x1 + B * x0 := by rw [Nat.add_mul, Nat.mul_assoc, Nat.mul_comm x1 (B * B), Nat.mul_comm x0 B]
  refine ⟨?_, ?_⟩
  · refine Nat.le_of_mul_le_mul_right (c := B) ?_ hB
    rw [e3, ← e2]
    omega
  · have b1 : d * (v * x1 + x0 + 1) ≤ d * (q * B + B) := Nat.mul_le_mul_left d hq2
    have e4 : d * (v * x1 + x0 + 1) = (v * d) * x1 + d * x0 + d := by rw [Nat.mul_add, Nat.mul_one, e1]
    have e5 : d * (q * B + B) = (d * q) * B + d * B := by rw [Nat.mul_add, e2]
    have b2 : (B * B) * x1 ≤ (v * d + d) * x1 := Nat.mul_le_mul_right x1 hv2
    have e6 : (v * d + d) * x1 = (v * d) * x1 + d * x1 := Nat.add_mul _ _ _
    obtain ⟨e, he⟩ : ∃ e, B = d + e := ⟨B - d, by omega⟩
    have e7 : B * x0 = d * x0 + e * x0 := by conv => lhs; rw [he, Nat.add_mul]
    have b3 : e * x0 ≤ e * B := Nat.mul_le_mul_left e (by omega)
    have b4 : d * x1 ≤ d * B := Nat.mul_le_mul_left d (by omega)
    have e8 : d * B + e * B = B * B := by rw [← Nat.add_mul, ← he]
    have e9 : (d * q + B + d) * B = (d * q) * B + B * B + d * B := by rw [Nat.add_mul, Nat.add_mul]
    have key : (x1 * B + x0) * B < (d * q + B + d) * B := by
      rw [e3, e9]
      omega
    exact Nat.lt_of_mul_lt_mul_right key

/-- The reciprocal word: m + B. -/
theorem recip_word {B d m : Nat} (hd0 : 0 < d) (hm : m = (B * B - 1) / d - B) (hB : B ≤ (B * B - 1) / d) (hB1 : 0 < B) : (m + B) * d ≤ B * B ∧ B * B ≤ (m + B) * d + d := by
  have e : m + B = (B * B - 1) / d := by omega
  rw [e]
  have h1 := Nat.div_mul_le_self (B * B - 1) d
  have h2 := Nat.div_add_mod (B * B - 1) d
  have h3 := Nat.mod_lt (B * B - 1) hd0
  have h4 : 0 < B * B := Nat.mul_pos hB1 hB1
  rw [Nat.mul_comm d] at h2
  omega

theorem div_unique {X d q r : Nat} (h : X = d * q + r) (hr : r < d) : X / d = q ∧ X % d = r := by
  subst h
  have hd : 0 < d := by omega
  rw [Nat.mul_add_div hd, Nat.mul_add_mod, Nat.div_eq_of_lt hr, Nat.mod_eq_of_lt hr]
  exact ⟨by omega, rfl⟩

/-- The guess put right: at most twice one more. -/
theorem recip_fix {B d X q : Nat} (hB : B ≤ 2 * d) (h1 : d * q ≤ X) (h2 : X < d * q + B + d) (hX : X < d * B) :
    (X - d * q < d → X / d = q ∧ X % d = X - d * q) ∧ (d ≤ X - d * q → X - d * q < 2 * d → X / d = q + 1 ∧ X % d = X - d * q - d) ∧ (2 * d ≤ X - d * q → X / d = q + 2 ∧ X % d = X - d * q - 2 * d) := by
  have _ := hX
  refine ⟨fun h => div_unique (by omega) h, fun h3 h4 => div_unique ?_ (by omega), fun h3 => div_unique ?_ (by omega)⟩
  · rw [Nat.mul_add, Nat.mul_one]; omega
  · rw [Nat.mul_add]; omega
end Go.Proofs.YtgpoplfgngiilaaGreatDoor
namespace Go.Proofs.YtgpoplfgngiilaaGreatDoor

theorem kd_gt {b u w yn1 yn0 y qh rh : Nat} (hy : y = yn1 * b + yn0) (hu : u = qh * yn1 + rh) : b * rh + w < qh * yn0 ↔ u * b + w < qh * y := by
  have e1 : qh * y = (qh * yn1) * b + qh * yn0 := by rw [hy, Nat.mul_add, Nat.mul_assoc]
  have e2 : u * b = (qh * yn1) * b + b * rh := by rw [hu, Nat.add_mul, Nat.mul_comm rh b]
  rw [e1, e2]
  omega
theorem kd_up {b u w y qh : Nat} (h : u * b + w < qh * y) : (u * b + w) / y < qh := Nat.div_lt_of_lt_mul (by rw [Nat.mul_comm y qh]; exact h)
theorem kd_lo {b u w y qh : Nat} (hy : 0 < y) (h : qh * y ≤ u * b + w) : qh ≤ (u * b + w) / y := (Nat.le_div_iff_mul_le hy).2 h
theorem kd_start {b u w yn1 yn0 y : Nat} (hy : y = yn1 * b + yn0) (h1 : 0 < yn1) (hw : w < b) : (u * b + w) / y ≤ u / yn1 := by
  have hlt : u < (u / yn1 + 1) * yn1 := by
    have a := Nat.div_add_mod u yn1
    have c := Nat.mod_lt u h1
    rw [Nat.add_mul, Nat.one_mul, Nat.mul_comm (u / yn1)]
    omega
  have h2 : (u + 1) * b ≤ ((u / yn1 + 1) * yn1) * b := Nat.mul_le_mul_right b hlt
  have h3 : ((u / yn1 + 1) * yn1) * b ≤ (u / yn1 + 1) * y := by
    rw [Nat.mul_assoc]
    exact Nat.mul_le_mul_left _ (by rw [hy]; exact Nat.le_add_right _ _)
  rw [Nat.add_mul, Nat.one_mul] at h2
  have h4 : u * b + w < (u / yn1 + 1) * y := by omega
  have h5 := kd_up h4
  omega
/-- The quotient's figure is below b. -/
theorem kd_small {b u w y : Nat} (hy : u < y) (hw : w < b) : (u * b + w) / y < b := by
  refine Nat.div_lt_of_lt_mul ?_
  have : (u + 1) * b ≤ y * b := Nat.mul_le_mul_right b hy
  rw [Nat.add_mul] at this
  omega
/-- Where the rest has grown to b the guess is no more too great. -/
theorem kd_stop {b u w yn1 yn0 y qh rh : Nat} (hy : y = yn1 * b + yn0) (hu : u = qh * yn1 + rh) (h0 : yn0 < b) (hq : qh ≤ b) (hr : b ≤ rh) : qh * y ≤ u * b + w := by
  have h1 : ¬ (u * b + w < qh * y) := fun h => by
    have h2 := (kd_gt (w := w) hy hu).2 h
    have h3 : qh * yn0 ≤ b * yn0 := Nat.mul_le_mul_right yn0 hq
    have h4 : b * yn0 ≤ b * rh := Nat.mul_le_mul_left b (by omega)
    omega
  omega
end Go.Proofs.YtgpoplfgngiilaaGreatDoor
namespace Go.Proofs.YtgpoplfgngiilaaGreatDoor

/-- The guess, as it is reckoned in words. -/
theorem dw_guess {B m x1 x0 : Nat} (hB : 0 < B) : (m * x1 / B + x1 + (m * x1 % B + x0) / B) * B ≤ (m + B) * x1 + x0 ∧ (m + B) * x1 + x0 < (m * x1 / B + x1 + (m * x1 % B + x0) / B) * B + B := by
  have h1 := Nat.div_add_mod (m * x1) B
  have h2 := Nat.div_add_mod (m * x1 % B + x0) B
  have h3 := Nat.mod_lt (m * x1 % B + x0) hB
  rw [Nat.add_mul m B x1]
  generalize m * x1 / B = t1 at *
  generalize (m * x1 % B + x0) / B = c at *
  generalize (m * x1 % B + x0) % B = e at *
  generalize m * x1 % B = t0 at *
  generalize m * x1 = mx at *
  rw [Nat.add_mul, Nat.add_mul, Nat.mul_comm t1, Nat.mul_comm x1, Nat.mul_comm c]
  omega

/-- The rest, as it is reckoned in words. -/
theorem dw_rest {x1 x0 p1 p0 b : Nat} (hx0 : x0 < 18446744073709551616) (hp0 : p0 < 18446744073709551616) (hx1 : x1 < 18446744073709551616) (hb : b = if x0 < p0 then 1 else 0)
    (h : p1 * 18446744073709551616 + p0 ≤ x1 * 18446744073709551616 + x0) :
    (x0 + 18446744073709551616 - p0) % 18446744073709551616 = (x1 * 18446744073709551616 + x0 - (p1 * 18446744073709551616 + p0)) % 18446744073709551616 ∧
    (x1 + 18446744073709551616 - p1 - b) % 18446744073709551616 = (x1 * 18446744073709551616 + x0 - (p1 * 18446744073709551616 + p0)) / 18446744073709551616 := by
  subst hb
  split
  · omega
  · omega

/-- bigall.divWW in words, the divisor normalized: quotient and rest. -/
theorem dw_all {d m x1 x0 q R : Nat} (hd : 9223372036854775808 ≤ d) (hd2 : d < 18446744073709551616) (hm : m = (18446744073709551616 * 18446744073709551616 - 1) / d - 18446744073709551616) (hx1 : x1 < d) (hx0 : x0 < 18446744073709551616)
    (hq : q = m * x1 / 18446744073709551616 + x1 + (m * x1 % 18446744073709551616 + x0) / 18446744073709551616) (hR : R = x1 * 18446744073709551616 + x0 - d * q) :
    q < 18446744073709551616 ∧ d * q ≤ x1 * 18446744073709551616 + x0 ∧ R < 18446744073709551616 + d ∧
    (R < d → (x1 * 18446744073709551616 + x0) / d = q ∧ (x1 * 18446744073709551616 + x0) % d = R) ∧
    (d ≤ R → R < 2 * d → (x1 * 18446744073709551616 + x0) / d = q + 1 ∧ (x1 * 18446744073709551616 + x0) % d = R - d) ∧
    (2 * d ≤ R → (x1 * 18446744073709551616 + x0) / d = q + 2 ∧ (x1 * 18446744073709551616 + x0) % d = R - 2 * d) := by
  have hv : 18446744073709551616 ≤ (18446744073709551616 * 18446744073709551616 - 1) / d := (Nat.le_div_iff_mul_le (by omega)).2 (by omega)
  obtain ⟨v1, v2⟩ := recip_word (B := 18446744073709551616) (by omega) hm hv (by decide)
  obtain ⟨g1, g2⟩ := dw_guess (B := 18446744073709551616) (m := m) (x1 := x1) (x0 := x0) (by decide)
  rw [← hq] at g1 g2
  obtain ⟨k1, k2⟩ := recip_div (by omega) (by omega) v1 v2 hx1 hx0 g1 g2
  have hX : x1 * 18446744073709551616 + x0 < d * 18446744073709551616 := by omega
  obtain ⟨f1, f2, f3⟩ := recip_fix (by omega) k1 k2 hX
  have hqB : q < 18446744073709551616 := by
    have : d * q < d * 18446744073709551616 := by omega
    exact Nat.lt_of_mul_lt_mul_left this
  rw [← hR] at f1 f2 f3
  exact ⟨hqB, k1, by omega, f1, f2, f3⟩
end Go.Proofs.YtgpoplfgngiilaaGreatDoor
namespace Go.Proofs.YtgpoplfgngiilaaGreatDoor

/-- A figure that is neither too great nor too small. -/
theorem kd_fig {b u w y q : Nat} (h1 : (u * b + w) / y ≤ q) (h2 : q * y ≤ u * b + w) (hy : 0 < y) : q = (u * b + w) / y := by
  have := kd_lo hy h2
  omega

/-- The start: the leading figures divided. -/
theorem kd_first {u y yn1 yn0 w : Nat} (hy : y = yn1 * 4294967296 + yn0) (h0 : yn0 < 4294967296) (h1 : 2147483648 ≤ yn1) (hw : w < 4294967296) (hu : u < y) (h2 : yn1 < 4294967296) :
    u = u / yn1 * yn1 + u % yn1 ∧ u % yn1 < 4294967296 ∧ u / yn1 ≤ 4294967297 ∧ (u * 4294967296 + w) / y ≤ u / yn1 := by
  refine ⟨?_, ?_, ?_, kd_start hy (by omega) hw⟩
  · have := Nat.div_add_mod u yn1
    rw [Nat.mul_comm] at this
    exact this.symm
  · exact Nat.lt_trans (Nat.mod_lt _ (by omega)) h2
  · refine Nat.le_of_lt_succ (Nat.div_lt_of_lt_mul ?_)
    rw [Nat.mul_comm yn1]
    omega

/-- One figure less. -/
theorem kd_less {u w y yn1 yn0 q r : Nat} (hu : u = q * yn1 + r) (hq : 0 < q) (hlt : u * 4294967296 + w < q * y) : u = (q - 1) * yn1 + (r + yn1) ∧ (u * 4294967296 + w) / y ≤ q - 1 := by
  have _ := yn0
  refine ⟨?_, ?_⟩
  · obtain ⟨k, rfl⟩ : ∃ k, q = k + 1 := ⟨q - 1, by omega⟩
    rw [Nat.add_sub_cancel]
    rw [Nat.add_mul] at hu
    omega
  · have := kd_up hlt
    omega

/-- Too great where it is no figure at all. -/
theorem kd_big {u w y q : Nat} (hu : u < y) (hw : w < 4294967296) (hq : 4294967296 ≤ q) : u * 4294967296 + w < q * y := by
  have h1 : 4294967296 * y ≤ q * y := Nat.mul_le_mul_right y hq
  omega

/-- Both figures, and the rest. -/
theorem kd_two {b B hi w1 w0 y q1 r1 q0 r0 : Nat} (hB : B = b * b) (h1 : hi * b + w1 = q1 * y + r1) (h0 : r1 * b + w0 = q0 * y + r0) (hr : r0 < y) :
    (hi * B + (w1 * b + w0)) / y = q1 * b + q0 ∧ (hi * B + (w1 * b + w0)) % y = r0 := by
  refine div_unique ?_ hr
  have e : hi * B + (w1 * b + w0) = (hi * b + w1) * b + w0 := by rw [hB, Nat.add_mul, Nat.mul_assoc]; omega
  rw [e, h1, Nat.mul_add, Nat.add_mul, Nat.add_assoc, h0]
  rw [Nat.mul_comm y (q1 * b), Nat.mul_comm y q0, Nat.mul_right_comm]
  omega

end Go.Proofs.YtgpoplfgngiilaaGreatDoor
