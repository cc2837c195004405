/- FnLiteralHexFloat, behind its card (M1 M2 M3). -/
import Derived.Test.YtgpoplfgngiilaaGreatDoorR03
set_option linter.unusedVariables false
set_option linter.unusedSimpArgs false
namespace Go.Proofs.YtgpoplfgngiilaaGreatDoor
open Go.RowKit Go.Proofs.YtgpoplfgngiilaaGreatDoorW.PrintWords Go.Proofs.YtgpoplfgngiilaaGreatDoorW.PrintMore

/-- The digits of n to the base B, the lowest first, none 0 at the end. -/
def lits (B n : Nat) : List Int := if _h : n = 0 ∨ B < 2 then [] else ((n % B : Nat) : Int) :: lits B (n / B)
termination_by n
decreasing_by exact Nat.div_lt_self (by omega) (by omega)
/-- The value of digits. -/
def valL (B : Nat) : List Int → Nat
  | [] => 0
  | x :: r => x.toNat + B * valL B r
def InR (B : Nat) (xs : List Int) : Prop := ∀ x ∈ xs, 0 ≤ x ∧ x < (B : Int)

theorem lits_zero (B : Nat) : lits B 0 = [] := by rw [lits]; simp
theorem lits_pos (B n : Nat) (hB : 2 ≤ B) (hn : n ≠ 0) : lits B n = ((n % B : Nat) : Int) :: lits B (n / B) := by rw [lits]; rw [dif_neg (by omega)]
theorem valL_lits (B : Nat) (hB : 2 ≤ B) (n : Nat) : valL B (lits B n) = n := by
  induction n using Nat.strongRecOn with
  | _ n ih =>
    by_cases h : n = 0
    · subst h; rw [lits_zero]; rfl
    · rw [lits_pos B n hB h, valL, ih (n / B) (Nat.div_lt_self (by omega) (by omega))]
      have := Nat.mod_add_div n B
      simp only [Int.toNat_natCast]; omega
theorem InR_lits (B : Nat) (hB : 2 ≤ B) (n : Nat) : InR B (lits B n) := by
  induction n using Nat.strongRecOn with
  | _ n ih =>
    by_cases h : n = 0
    · subst h; rw [lits_zero]; intro x hx; cases hx
    · rw [lits_pos B n hB h]
      intro x hx
      rcases List.mem_cons.1 hx with rfl | hx
      · have := Nat.mod_lt n (show B > 0 by omega); omega
      · exact ih (n / B) (Nat.div_lt_self (by omega) (by omega)) x hx
theorem valL_append (B : Nat) (xs ys : List Int) : valL B (xs ++ ys) = valL B xs + B ^ xs.length * valL B ys := by
  induction xs with
  | nil => simp [valL]
  | cons x r ih => simp only [List.cons_append, valL, ih, List.length_cons, Nat.pow_succ, Nat.mul_add]; rw [Nat.mul_comm (B ^ r.length) B, Nat.mul_assoc]; omega
theorem valL_pos (B : Nat) (hB : 2 ≤ B) (xs : List Int) (z : Int) (hz : 0 < z) : 0 < valL B (xs ++ [z]) := by
  rw [valL_append]
  have h1 : 0 < B ^ xs.length := Nat.pow_pos (by omega)
  have h2 : 0 < valL B [z] := by simp only [valL]; omega
  have := Nat.mul_pos h1 h2
  omega
/-- Digits with none 0 at the end are the digits of their value. -/
theorem lits_of_last (B : Nat) (hB : 2 ≤ B) : ∀ (xs : List Int) (z : Int), InR B (xs ++ [z]) → 0 < z → lits B (valL B (xs ++ [z])) = xs ++ [z] := by
  intro xs
  induction xs with
  | nil =>
    intro z hR hz
    have hz2 := hR z (by simp)
    obtain ⟨m, rfl⟩ := Int.eq_ofNat_of_zero_le hz2.1
    simp only [List.nil_append, valL, Int.toNat_natCast, Nat.mul_zero, Nat.add_zero]
    rw [lits_pos B m hB (by omega), Nat.mod_eq_of_lt (by omega), Nat.div_eq_of_lt (by omega), lits_zero]
  | cons x r ih =>
    intro z hR hz
    have hx := hR x (by simp)
    obtain ⟨m, rfl⟩ := Int.eq_ofNat_of_zero_le hx.1
    have hp := valL_pos B hB r z hz
    have hi := ih z (fun y hy => hR y (by simp only [List.cons_append, List.mem_cons]; exact Or.inr hy)) hz
    simp only [List.cons_append, valL, Int.toNat_natCast]
    have hne : m + B * valL B (r ++ [z]) ≠ 0 := by
      have := Nat.mul_pos (show 0 < B by omega) hp
      omega
    rw [lits_pos B _ hB hne, Nat.add_mul_mod_self_left, Nat.mod_eq_of_lt (by omega), Nat.add_mul_div_left _ _ (by omega), Nat.div_eq_of_lt (by omega), Nat.zero_add, hi]
theorem lits_snoc_zero (B : Nat) (xs : List Int) : valL B (xs ++ [0]) = valL B xs := by rw [valL_append]; simp [valL]
theorem lits_length_le (B : Nat) (hB : 2 ≤ B) (xs : List Int) (hR : InR B xs) : (lits B (valL B xs)).length ≤ xs.length := by
  rcases List.eq_nil_or_concat xs with rfl | ⟨ys, z, rfl⟩
  · simp [valL, lits_zero]
  · rw [List.concat_eq_append] at hR ⊢
    have hz := hR z (by simp)
    by_cases h : z = 0
    · subst h
      rw [lits_snoc_zero]
      have := lits_length_le B hB ys (fun y hy => hR y (by simp [hy]))
      simp; omega
    · rw [lits_of_last B hB ys z hR (by omega)]; exact Nat.le_refl _
termination_by xs.length
decreasing_by all_goals (subst_vars; simp)

theorem rd_last (xs : List Int) (z : Int) : rd (xs ++ [z]) ((xs.length : Nat) : Int) = z := by simp [rd, List.getD]

/-- spec.trim leaves the digits of the value. -/
theorem trim_f (xs : List Int) (hR : InR 65536 xs) (hl : xs.length ≤ 1000000000000) : ∀ k, xs.length < k → Pr.spec_trim.f k xs = some (lits 65536 (valL 65536 xs)) := by
  intro k hk
  obtain ⟨k, rfl⟩ : ∃ m, k = m + 1 := ⟨k - 1, by omega⟩
  unfold Pr.spec_trim.f
  simp only [Pr.spec_trim.l0]
  rcases List.eq_nil_or_concat xs with rfl | ⟨ys, z, rfl⟩
  · rw [if_neg (by simp)]
    simp [valL, lits_zero]
  · rw [List.concat_eq_append] at hR hl hk ⊢
    have hz := hR z (by simp)
    have hw : wrap64 (((ys ++ [z]).length : Int) - 1) = (ys.length : Int) := by
      simp only [List.length_append, List.length_cons, List.length_nil] at hl ⊢
      unfold wrap64; omega
    rw [hw, rd_last]
    rw [if_pos (by simp; try omega), if_pos (by omega), if_pos (by simp; try omega)]
    by_cases h : z = 0
    · subst h
      rw [if_pos rfl, if_pos (by simp; try omega), lits_snoc_zero]
      have := trim_f ys (fun y hy => hR y (by simp [hy])) (by simp at hl; omega) k (by simp at hk; omega)
      unfold Pr.spec_trim.f at this
      have e : (ys ++ [(0 : Int)]).take ((ys.length : Int)).toNat = ys := by simp
      rw [e]
      exact this
    · rw [if_neg h, lits_of_last 65536 (by decide) ys z hR (by omega)]
termination_by xs.length
decreasing_by all_goals (subst_vars; simp)

theorem wraps_u64 (n : Int) (h0 : 0 ≤ n) (h1 : n < 2 ^ 64) : IntKind.u64.wrap n = n := by
  simp [IntKind.wrap, IntKind.bits, IntKind.signed]; omega
theorem and_low16 (x : Int) (h0 : 0 ≤ x) (h1 : x < 18446744073709551616) : Go.bits .and .u64 x 65535 = x % 65536 :=
  bits_mask .u64 64 (by decide) wraps_u64 16 (by decide) x h0 h1
theorem or_u64 (i : Nat) (x y : Int) (h0 : 0 ≤ y) (hy : y % 2 ^ i = 0) (hy1 : y < 18446744073709551616) (h1 : 0 ≤ x) (h2 : x < 2 ^ i) (h3 : x < 18446744073709551616) : Go.bits .or .u64 y x = y + x :=
  bits_join .u64 64 (by decide) wraps_u64 i y x h0 hy hy1 h1 h2 h3

/-- The figure number j of a word, base 65536. -/
def quad (x : Int) (j : Nat) : Int := x / 65536 ^ j % 65536
def quads (x : Int) : List Int := [quad x 0, quad x 1, quad x 2, quad x 3]
theorem quad_of (x : Int) (j : Nat) (hj : j < 4) (h0 : 0 ≤ x) (h1 : x < 18446744073709551616) :
    wrap64 (Go.bits .and .u64 (shr .u64 x (wrap64 (16 * (j : Int)))) 65535) = quad x j := by
  have hs : shr .u64 x (wrap64 (16 * (j : Int))) = x / 65536 ^ j := by
    have e : wrap64 (16 * (j : Int)) = 16 * (j : Int) := by unfold wrap64; omega
    rw [e]
    unfold shr
    have e2 : min (16 * (j : Int)).toNat IntKind.u64.bits = 16 * j := by simp [IntKind.bits]; omega
    rw [e2, Int.pow_mul]
    rfl
  rw [hs]
  have hp : (0 : Int) < 65536 ^ j := Int.pow_pos (by decide)
  have d0 : 0 ≤ x / 65536 ^ j := Int.ediv_nonneg h0 (Int.le_of_lt hp)
  have d1 : x / 65536 ^ j ≤ x := Int.ediv_le_self _ h0
  rw [and_low16 _ d0 (by omega)]
  unfold quad wrap64
  omega

theorem of_l1_step (k : Nat) (l : List Int) (x : Int) (ws : List Int) (n i : Int) (j : Nat) (hj : j < 4) (h0 : 0 ≤ x) (h1 : x < 18446744073709551616) (hl : l.length < 17592186044416) :
    Pr.spec_Of.l1 (k + 1) l x (j : Int) ws n i = Pr.spec_Of.l1 k (l ++ [quad x j]) x ((j + 1 : Nat) : Int) ws n i := by
  have e : wrap64 (16 * (j : Int)) = 16 * (j : Int) := by unfold wrap64; omega
  have e1 : wrap64 ((j : Int) + 1) = ((j + 1 : Nat) : Int) := by unfold wrap64; omega
  rw [Pr.spec_Of.l1, if_pos (by omega), if_pos (by rw [e]; omega), if_pos hl, quad_of x j hj h0 h1, e1]

theorem of_l1 (k : Nat) (l : List Int) (x : Int) (ws : List Int) (n i : Int) (h0 : 0 ≤ x) (h1 : x < 18446744073709551616) (hl : l.length + 4 < 17592186044416) :
    Pr.spec_Of.l1 (k + 5) l x 0 ws n i = Pr.spec_Of.l0 k (l ++ quads x) ws n (wrap64 (i + 1)) := by
  have s0 := of_l1_step (k + 4) l x ws n i 0 (by decide) h0 h1 (by omega)
  have s1 := of_l1_step (k + 3) (l ++ [quad x 0]) x ws n i 1 (by decide) h0 h1 (by simp; omega)
  have s2 := of_l1_step (k + 2) (l ++ [quad x 0] ++ [quad x 1]) x ws n i 2 (by decide) h0 h1 (by simp; omega)
  have s3 := of_l1_step (k + 1) (l ++ [quad x 0] ++ [quad x 1] ++ [quad x 2]) x ws n i 3 (by decide) h0 h1 (by simp; omega)
  refine s0.trans (s1.trans (s2.trans (s3.trans ?_)))
  rw [Pr.spec_Of.l1, if_neg (by decide)]
  simp [quads]

theorem quads_val (x : Int) (h0 : 0 ≤ x) (h1 : x < 18446744073709551616) : valL 65536 (quads x) = x.toNat := by
  obtain ⟨m, rfl⟩ := Int.eq_ofNat_of_zero_le h0
  simp only [quads, valL, quad]
  omega
theorem quads_R (x : Int) : InR 65536 (quads x) := by
  intro y hy
  simp only [quads, List.mem_cons, List.mem_nil_iff, or_false, quad] at hy
  rcases hy with rfl | rfl | rfl | rfl <;> omega
/-- The figures of words. -/
def quadsL : List Int → List Int
  | [] => []
  | x :: r => quads x ++ quadsL r
theorem quadsL_length (ws : List Int) : (quadsL ws).length = 4 * ws.length := by
  induction ws with
  | nil => rfl
  | cons x r ih => simp only [quadsL, List.length_append, ih, List.length_cons, quads, List.length_nil]; omega
theorem quadsL_R (ws : List Int) : InR 65536 (quadsL ws) := by
  induction ws with
  | nil => intro x hx; cases hx
  | cons x r ih =>
    intro y hy
    rcases List.mem_append.1 hy with h | h
    · exact quads_R x y h
    · exact ih y h
theorem quadsL_val (ws : List Int) (hR : InR 18446744073709551616 ws) : valL 65536 (quadsL ws) = valL 18446744073709551616 ws := by
  induction ws with
  | nil => rfl
  | cons x r ih =>
    have hx := hR x (by simp)
    rw [quadsL, valL_append, ih (fun y hy => hR y (by simp [hy])), quads_val x hx.1 hx.2, valL]
    have e : (65536 : Nat) ^ (quads x).length = 18446744073709551616 := by simp [quads]
    rw [e]
theorem quadsL_snoc (ws : List Int) (x : Int) : quadsL (ws ++ [x]) = quadsL ws ++ quads x := by
  induction ws with
  | nil => simp [quadsL]
  | cons y r ih => simp [quadsL, ih, List.append_assoc]

theorem rd_mem (ws : List Int) (i : Nat) (h : i < ws.length) : rd ws (i : Int) ∈ ws := by
  simp only [rd, Int.toNat_natCast, List.getD, List.getElem?_eq_getElem h, Option.getD_some]
  exact List.getElem_mem h
theorem take_rd' (ws : List Int) (i : Nat) (h : i < ws.length) : ws.take (i + 1) = ws.take i ++ [rd ws (i : Int)] := by
  rw [List.take_succ_eq_append_getElem h]
  simp [rd, List.getD, h]

theorem of_l0 (ws : List Int) (hR : InR 18446744073709551616 ws) (hl : ws.length ≤ 1000000000) (d : Nat) : ∀ (i k : Nat), i + d = ws.length → 7 * d + 4 * ws.length + 10 < k →
    Pr.spec_Of.l0 k (quadsL (ws.take i)) ws (ws.length : Int) (i : Int) = some (lits 65536 (valL 18446744073709551616 ws)) := by
  induction d with
  | zero =>
    intro i k hi hk
    obtain ⟨k, rfl⟩ : ∃ m, k = m + 1 := ⟨k - 1, by omega⟩
    obtain rfl : i = ws.length := by omega
    rw [Pr.spec_Of.l0, if_neg (by omega), List.take_length, trim_f _ (quadsL_R ws) (by rw [quadsL_length]; omega) k (by rw [quadsL_length]; omega), quadsL_val ws hR]
    rfl
  | succ d ih =>
    intro i k hi hk
    obtain ⟨k, rfl⟩ : ∃ m, k = (m + 5) + 1 := ⟨k - 6, by omega⟩
    have hlt : i < ws.length := by omega
    have hx := hR _ (rd_mem ws i hlt)
    rw [Pr.spec_Of.l0, if_pos (by omega), if_pos (by omega), if_pos (by omega), of_l1 k _ _ ws _ _ hx.1 hx.2 (by rw [quadsL_length]; simp; omega)]
    rw [← quadsL_snoc, ← take_rd' ws i hlt]
    have e : wrap64 ((i : Int) + 1) = ((i + 1 : Nat) : Int) := by unfold wrap64; omega
    rw [e]
    exact ih (i + 1) k (by omega) (by omega)
/-- spec.Of: the digits of the number that words are. -/
theorem of_f (ws : List Int) (hR : InR 18446744073709551616 ws) (hl : ws.length ≤ 1000000000) (k : Nat) (hk : 11 * ws.length + 10 < k) : Pr.spec_Of.f k ws = some (lits 65536 (valL 18446744073709551616 ws)) := by
  have := of_l0 ws hR hl ws.length 0 k (by omega) (by omega)
  unfold Pr.spec_Of.f
  simpa [quadsL] using this
end Go.Proofs.YtgpoplfgngiilaaGreatDoor
namespace Go.Proofs.YtgpoplfgngiilaaGreatDoor
open Go.RowKit Go.Proofs.YtgpoplfgngiilaaGreatDoorW.PrintWords Go.Proofs.YtgpoplfgngiilaaGreatDoorW.PrintMore

theorem bits_or_comm (k : IntKind) (x y : Int) : Go.bits .or k x y = Go.bits .or k y x := by
  simp only [Go.bits, BitVec.or_comm]

/-- d shifted by j figures. -/
theorem shl_fig (d : Int) (i : Nat) (h0 : 0 ≤ d) (h1 : d < 65536) (hi : i ≤ 1000000000) :
    shl .u64 (IntKind.u64.wrap d) (wrap64 (16 * (Int.tmod (i : Int) 4))) = d * 65536 ^ (i % 4) := by
  have e1 : Int.tmod (i : Int) 4 = ((i % 4 : Nat) : Int) := by rw [Int.tmod_eq_emod_of_nonneg (by omega)]; omega
  have e2 : wrap64 (16 * ((i % 4 : Nat) : Int)) = ((16 * (i % 4) : Nat) : Int) := by unfold wrap64; omega
  rw [e1, e2, wraps_u64 d h0 (by omega)]
  unfold shl
  have hm : i % 4 < 4 := Nat.mod_lt _ (by decide)
  have e3 : min ((16 * (i % 4) : Nat) : Int).toNat IntKind.u64.bits = 16 * (i % 4) := by simp [IntKind.bits]; omega
  rw [e3, Int.pow_mul]
  generalize i % 4 = j at hm
  have hj : j = 0 ∨ j = 1 ∨ j = 2 ∨ j = 3 := by omega
  rcases hj with rfl | rfl | rfl | rfl
  all_goals
    rw [wraps_u64]
    · rfl
    · simp; try omega
    · simp; omega
theorem or_fig (x d : Int) (j : Nat) (hj : j < 4) (h0 : 0 ≤ d) (h1 : d < 65536) (x0 : 0 ≤ x) (x1 : x < 65536 ^ j) : Go.bits .or .u64 x (d * 65536 ^ j) = x + d * 65536 ^ j := by
  rw [bits_or_comm]
  have hj : j = 0 ∨ j = 1 ∨ j = 2 ∨ j = 3 := by omega
  rcases hj with rfl | rfl | rfl | rfl
  · rw [or_u64 0 x _ (by simp; try omega) (by simp; try omega) (by simp; try omega) x0 (by simpa using x1) (by simp at x1; omega)]; omega
  · rw [or_u64 16 x _ (by simp; omega) (by simp; try omega) (by simp; omega) x0 (by simpa using x1) (by simp at x1; omega)]; omega
  · rw [or_u64 32 x _ (by simp; omega) (by simp; try omega) (by simp; omega) x0 (by simpa using x1) (by simp at x1; omega)]; omega
  · rw [or_u64 48 x _ (by simp; omega) (by simp; try omega) (by simp; omega) x0 (by simpa using x1) (by simp at x1; omega)]; omega

structure WInv (l : List Int) (i : Nat) (out : List Int) : Prop where
  len : out.length = (i + 3) / 4
  rng : InR 18446744073709551616 out
  val : valL 18446744073709551616 out = valL 65536 (l.take i)
  low : i % 4 ≠ 0 → rd out ((i / 4 : Nat) : Int) < 65536 ^ (i % 4)
  last : 0 < i → rd l ((i - 1 : Nat) : Int) ≠ 0 → rd out ((out.length - 1 : Nat) : Int) ≠ 0

theorem pow_W (i : Nat) : (18446744073709551616 : Nat) ^ (i / 4) * 65536 ^ (i % 4) = 65536 ^ i := by
  have e : (18446744073709551616 : Nat) = 65536 ^ 4 := by simp
  rw [e, ← Nat.pow_mul, ← Nat.pow_add, Nat.div_add_mod]

theorem winv_new (l : List Int) (i : Nat) (out : List Int) (hR : InR 65536 l) (hi : i < l.length) (h : WInv l i out) (h4 : i % 4 = 0) : WInv l (i + 1) (out ++ [rd l (i : Int)]) := by
  have hd := hR _ (rd_mem l i hi)
  have hlen : out.length = i / 4 := by have := h.len; omega
  refine ⟨by rw [List.length_append, hlen]; simp; omega, ?_, ?_, ?_, ?_⟩
  · intro x hx
    rcases List.mem_append.1 hx with hx | hx
    · exact h.rng x hx
    · simp at hx; subst hx; omega
  · rw [take_rd' l i hi, valL_append, valL_append, h.val, hlen, List.length_take, Nat.min_eq_left (by omega)]
    have := pow_W i
    rw [h4, Nat.pow_zero, Nat.mul_one] at this
    rw [this]
    simp [valL]
  · intro _
    have e : (i + 1) % 4 = 1 := by omega
    have e2 : (i + 1) / 4 = out.length := by omega
    rw [e, e2, rd_last]; simpa using hd.2
  · intro _ hne
    rw [Nat.add_sub_cancel] at hne
    have e : (out ++ [rd l (i : Int)]).length - 1 = out.length := by simp
    rw [e, rd_last]; exact hne

theorem winv_set (l : List Int) (i : Nat) (ys : List Int) (x : Int) (hR : InR 65536 l) (hi : i < l.length) (h : WInv l i (ys ++ [x])) (h4 : i % 4 ≠ 0) : WInv l (i + 1) (ys ++ [x + rd l (i : Int) * 65536 ^ (i % 4)]) := by
  have hd := hR _ (rd_mem l i hi)
  have hlen : ys.length = i / 4 := by have := h.len; simp at this; omega
  have hx := h.rng x (by simp)
  have hlow := h.low h4
  rw [← hlen, rd_last] at hlow
  have hm : i % 4 < 4 := Nat.mod_lt _ (by decide)
  have hp : (65536 : Int) ^ (i % 4 + 1) ≤ 18446744073709551616 := by
    have : i % 4 = 1 ∨ i % 4 = 2 ∨ i % 4 = 3 := by omega
    rcases this with e | e | e <;> rw [e] <;> decide
  have hp0 : (0 : Int) < 65536 ^ (i % 4) := Int.pow_pos (by decide)
  have hnn : 0 ≤ rd l (i : Int) * 65536 ^ (i % 4) := Int.mul_nonneg hd.1 (Int.le_of_lt hp0)
  have hb : x + rd l (i : Int) * 65536 ^ (i % 4) < 65536 ^ (i % 4 + 1) := by
    rw [Int.pow_succ]
    have h1 : (rd l (i : Int) + 1) * 65536 ^ (i % 4) ≤ 65536 * 65536 ^ (i % 4) := Int.mul_le_mul_of_nonneg_right (by omega) (Int.le_of_lt hp0)
    rw [Int.add_mul, Int.one_mul] at h1
    rw [Int.mul_comm (65536 ^ (i % 4)) 65536]
    omega
  refine ⟨by rw [List.length_append, hlen]; simp; omega, ?_, ?_, ?_, ?_⟩
  · intro y hy
    rcases List.mem_append.1 hy with hy | hy
    · exact h.rng y (by simp [hy])
    · simp at hy; subst hy; omega
  · have hv := h.val
    rw [valL_append, hlen] at hv
    rw [take_rd' l i hi, valL_append, valL_append, ← hv, hlen, List.length_take, Nat.min_eq_left (by omega), ← pow_W i]
    simp only [valL, Nat.mul_zero, Nat.add_zero]
    obtain ⟨m, hm2⟩ := Int.eq_ofNat_of_zero_le hx.1
    obtain ⟨q, hq⟩ := Int.eq_ofNat_of_zero_le hd.1
    rw [hm2, hq]
    have e : ((m : Int) + (q : Int) * 65536 ^ (i % 4)).toNat = m + q * 65536 ^ (i % 4) := by
      have : ((m : Int) + (q : Int) * 65536 ^ (i % 4)) = ((m + q * 65536 ^ (i % 4) : Nat) : Int) := by simp
      rw [this, Int.toNat_natCast]
    rw [e]
    simp only [Int.toNat_natCast, Nat.mul_add, Nat.add_assoc]
    rw [Nat.mul_assoc, Nat.mul_comm q]
  · intro h41
    have e : (i + 1) / 4 = ys.length := by omega
    have e2 : (i + 1) % 4 = i % 4 + 1 := by omega
    rw [e, e2, rd_last]; exact hb
  · intro _ hne
    rw [Nat.add_sub_cancel] at hne
    have e : (ys ++ [x + rd l (i : Int) * 65536 ^ (i % 4)]).length - 1 = ys.length := by simp
    rw [e, rd_last]
    have h1 : 1 * 65536 ^ (i % 4) ≤ rd l (i : Int) * 65536 ^ (i % 4) := Int.mul_le_mul_of_nonneg_right (by omega) (Int.le_of_lt hp0)
    omega

theorem words_l0 (l : List Int) (hR : InR 65536 l) (hl : l.length ≤ 1000000000) (d : Nat) : ∀ (i k : Nat) (out : List Int), i + d = l.length → d < k → WInv l i out →
    ∃ r, Pr.spec_Words.l0 k out l (l.length : Int) (i : Int) = some r ∧ WInv l l.length r := by
  induction d with
  | zero =>
    intro i k out hi hk hw
    obtain ⟨k, rfl⟩ : ∃ m, k = m + 1 := ⟨k - 1, by omega⟩
    obtain rfl : i = l.length := by omega
    exact ⟨out, by rw [Pr.spec_Words.l0, if_neg (by omega)], hw⟩
  | succ d ih =>
    intro i k out hi hk hw
    obtain ⟨k, rfl⟩ : ∃ m, k = m + 1 := ⟨k - 1, by omega⟩
    have hlt : i < l.length := by omega
    have hd := hR _ (rd_mem l i hlt)
    have et : Int.tmod (i : Int) 4 = ((i % 4 : Nat) : Int) := by rw [Int.tmod_eq_emod_of_nonneg (by omega)]; omega
    have ed : wrap64 (Int.tdiv (i : Int) 4) = ((i / 4 : Nat) : Int) := by rw [Int.tdiv_eq_ediv_of_nonneg (by omega)]; unfold wrap64; omega
    have e1 : wrap64 ((i : Int) + 1) = ((i + 1 : Nat) : Int) := by unfold wrap64; omega
    have es := shl_fig (rd l (i : Int)) i hd.1 hd.2 (by omega)
    have h16 : 0 ≤ wrap64 (16 * Int.tmod (i : Int) 4) := by rw [et]; unfold wrap64; omega
    rw [Pr.spec_Words.l0, if_pos (by omega), if_pos (by omega), if_pos (by omega), es, ed, e1]
    have hlen := hw.len
    by_cases h4 : i % 4 = 0
    · have hn := winv_new l i out hR hlt hw h4
      rw [if_pos (by rw [et, h4]; rfl), if_pos (by omega), Option.bind_some, if_pos (by omega), if_pos (by simp; omega), if_pos h16]
      have e0 : out.length = i / 4 := by omega
      rw [← e0, rd_last, h4]
      have eor : Go.bits .or .u64 0 (rd l (i : Int) * 65536 ^ 0) = rd l (i : Int) := by
        rw [or_fig 0 _ 0 (by decide) hd.1 hd.2 (by decide) (by decide)]; simp
      rw [eor]
      have eset : (out ++ [(0 : Int)]).set ((out.length : Nat) : Int).toNat (rd l (i : Int)) = out ++ [rd l (i : Int)] := by simp
      rw [eset]
      exact ih (i + 1) k _ (by omega) (by omega) hn
    · have hne : out ≠ [] := by
        intro e
        rw [e] at hlen
        simp at hlen; omega
      obtain ⟨ys, x, rfl⟩ : ∃ ys x, out = ys ++ [x] := by
        rcases List.eq_nil_or_concat out with h | ⟨ys, x, h⟩
        · exact absurd h hne
        · exact ⟨ys, x, by rw [h, List.concat_eq_append]⟩
      have hn := winv_set l i ys x hR hlt hw h4
      have e0 : ys.length = i / 4 := by simp at hlen; omega
      have hlow := hw.low h4
      rw [← e0, rd_last] at hlow
      have hx := hw.rng x (by simp)
      rw [if_neg (by rw [et]; omega), if_pos (by omega), if_pos (by simp; omega), if_pos h16, ← e0, rd_last,
        or_fig x _ (i % 4) (Nat.mod_lt _ (by decide)) hd.1 hd.2 hx.1 hlow]
      have eset : (ys ++ [x]).set ((ys.length : Nat) : Int).toNat (x + rd l (i : Int) * 65536 ^ (i % 4)) = ys ++ [x + rd l (i : Int) * 65536 ^ (i % 4)] := by simp
      rw [eset]
      exact ih (i + 1) k _ (by omega) (by omega) hn

/-- spec.Words of the digits of n: the words of n. -/
theorem words_f (n : Nat) (hl : (lits 65536 n).length ≤ 1000000000) (k : Nat) (hk : (lits 65536 n).length < k) : Pr.spec_Words.f k (lits 65536 n) = some (lits 18446744073709551616 n) := by
  obtain ⟨r, hr, hw⟩ := words_l0 (lits 65536 n) (InR_lits 65536 (by decide) n) hl (lits 65536 n).length 0 k [] (by omega) hk
    ⟨rfl, fun x hx => (by cases hx), by simp [valL], fun h => absurd rfl h, fun h => absurd h (Nat.lt_irrefl 0)⟩
  unfold Pr.spec_Words.f
  rw [show ((0 : Nat) : Int) = 0 from rfl] at hr
  rw [hr]
  congr 1
  have hv : valL 18446744073709551616 r = n := by rw [hw.val, List.take_length, valL_lits 65536 (by decide)]
  rcases List.eq_nil_or_concat r with h | ⟨ys, z, h⟩
  · subst h
    simp only [valL] at hv
    rw [← hv, lits_zero]
  · rw [List.concat_eq_append] at h
    subst h
    have hlz : (lits 65536 n).length ≠ 0 := by
      intro e
      have := hw.len
      rw [e] at this
      simp at this
    -- the last figure is not 0
    have hz := hw.rng z (by simp)
    have hzne : z ≠ 0 := by
      have h0 := hw.last (by omega) (by
        rcases List.eq_nil_or_concat (lits 65536 n) with e | ⟨qs, b, e⟩
        · rw [e] at hlz; exact absurd rfl hlz
        · rw [List.concat_eq_append] at e
          have hb := InR_lits 65536 (by decide) n b (by rw [e]; simp)
          rw [e]
          have e2 : (qs ++ [b]).length - 1 = qs.length := by simp
          rw [e2, rd_last]
          intro hb0
          subst hb0
          have h1 := lits_length_le 65536 (by decide) qs (fun y hy => InR_lits 65536 (by decide) n y (by rw [e]; simp [hy]))
          have h2 : valL 65536 qs = n := by rw [← lits_snoc_zero, ← e, valL_lits 65536 (by decide)]
          rw [h2, e] at h1
          simp at h1; omega)
      rw [show (ys ++ [z]).length - 1 = ys.length by simp, rd_last] at h0
      exact h0
    rw [← hv]
    exact (lits_of_last 18446744073709551616 (by decide) ys z hw.rng (by omega)).symm
end Go.Proofs.YtgpoplfgngiilaaGreatDoor
namespace Go.Proofs.YtgpoplfgngiilaaGreatDoor
open Go.RowKit Go.Proofs.YtgpoplfgngiilaaGreatDoorW.PrintWords Go.Proofs.YtgpoplfgngiilaaGreatDoorW.PrintMore

theorem hasWords_l0 (ws vs : List Int) (hl : ws.length = vs.length) (hb : vs.length ≤ 1000000000) (d : Nat) : ∀ (i k : Nat), i + d = vs.length → d < k → ws.take i = vs.take i →
    ∃ b, Pr.spec_HasWords.l0 k ws vs (vs.length : Int) (i : Int) = some b ∧ (b = true ↔ ws = vs) := by
  induction d with
  | zero =>
    intro i k hi hk he
    obtain ⟨k, rfl⟩ : ∃ m, k = m + 1 := ⟨k - 1, by omega⟩
    obtain rfl : i = vs.length := by omega
    rw [List.take_length, ← hl, List.take_length] at he
    exact ⟨true, by rw [Pr.spec_HasWords.l0, if_neg (by omega)], by simp [he]⟩
  | succ d ih =>
    intro i k hi hk he
    obtain ⟨k, rfl⟩ : ∃ m, k = m + 1 := ⟨k - 1, by omega⟩
    have hlt : i < vs.length := by omega
    have e1 : wrap64 ((i : Int) + 1) = ((i + 1 : Nat) : Int) := by unfold wrap64; omega
    rw [Pr.spec_HasWords.l0, if_pos (by omega), if_pos (by omega), if_pos (by omega), if_pos (by omega)]
    by_cases h : rd ws (i : Int) = rd vs (i : Int)
    · rw [if_pos h, e1]
      exact ih (i + 1) k (by omega) (by omega) (by rw [take_rd' ws i (by omega), take_rd' vs i hlt, he, h])
    · rw [if_neg h]
      exact ⟨false, rfl, by constructor <;> intro h2; · cases h2
                            · subst h2; exact absurd rfl h⟩

theorem hasWords_f (ws : List Int) (n : Nat) (hl : (lits 65536 n).length ≤ 1000000000) (hl2 : (lits 18446744073709551616 n).length ≤ 1000000000) (k : Nat) (hk : (lits 65536 n).length + (lits 18446744073709551616 n).length < k) :
    ∃ b, Pr.spec_HasWords.f k ws (lits 65536 n) = some b ∧ (b = true ↔ ws = lits 18446744073709551616 n) := by
  unfold Pr.spec_HasWords.f
  rw [words_f n hl k (by omega), Option.bind_some]
  by_cases h : ws.length = (lits 18446744073709551616 n).length
  · rw [if_pos (by omega)]
    exact hasWords_l0 ws _ h hl2 (lits 18446744073709551616 n).length 0 k (by omega) (by omega) rfl
  · rw [if_neg (by omega)]
    exact ⟨false, rfl, by constructor <;> intro h2; · cases h2
                          · rw [h2] at h; exact absurd rfl h⟩

theorem cmp_l0 (l : List Int) (hb : l.length ≤ 1000000000) (d : Nat) : ∀ k, d < k → d ≤ l.length → Pr.spec_Cmp.l0 k l l ((d : Int) - 1) = some 0 := by
  induction d with
  | zero =>
    intro k hk _
    obtain ⟨k, rfl⟩ : ∃ m, k = m + 1 := ⟨k - 1, by omega⟩
    rw [Pr.spec_Cmp.l0, if_neg (by omega)]
  | succ d ih =>
    intro k hk hd
    obtain ⟨k, rfl⟩ : ∃ m, k = m + 1 := ⟨k - 1, by omega⟩
    rw [Pr.spec_Cmp.l0, if_pos (by omega), if_pos (by omega), if_pos (by omega), if_pos (by omega), if_neg (by omega), if_neg (by omega)]
    have e : wrap64 (((d + 1 : Nat) : Int) - 1 - 1) = (d : Int) - 1 := by unfold wrap64; omega
    rw [e]
    exact ih k (by omega) (by omega)
/-- spec.Cmp of a number with itself. -/
theorem cmp_f (l : List Int) (hb : l.length ≤ 1000000000) (k : Nat) (hk : l.length < k) : Pr.spec_Cmp.f k l l = some 0 := by
  unfold Pr.spec_Cmp.f
  rw [if_neg (by omega), if_neg (by omega)]
  have e : wrap64 ((l.length : Int) - 1) = (l.length : Int) - 1 := by unfold wrap64; omega
  rw [e]
  exact cmp_l0 l hb l.length k hk (Nat.le_refl _)
theorem same_f (a : Bool) (l m : List Int) (hb : l.length ≤ 1000000000) (hm : m.length ≤ 1000000000) (k : Nat) (hk : l.length < k) (hk2 : m.length < k) : Pr.spec_same.f k a l m a l m = some true := by
  unfold Pr.spec_same.f
  rw [if_pos (by simp), cmp_f l hb k hk, Option.bind_some, if_pos rfl, cmp_f m hm k hk2]
  rfl

theorem small_l0 (n : Nat) : ∀ (out : List Int) (k : Nat), n < 9223372036854775808 → out.length + n.log2 + 1 < 1000 → n.log2 + 2 < k → Pr.spec_Small.l0 k (n : Int) out = some (out ++ lits 65536 n) := by
  induction n using Nat.strongRecOn with
  | _ n ih =>
    intro out k hn ho hk
    obtain ⟨k, rfl⟩ : ∃ m, k = m + 1 := ⟨k - 1, by omega⟩
    rw [Pr.spec_Small.l0]
    by_cases h : n = 0
    · subst h
      rw [if_neg (by omega), lits_zero, List.append_nil]
    · have et : Int.tmod (n : Int) 65536 = ((n % 65536 : Nat) : Int) := by rw [Int.tmod_eq_emod_of_nonneg (by omega)]; omega
      have ed : wrap64 (Int.tdiv (n : Int) 65536) = ((n / 65536 : Nat) : Int) := by rw [Int.tdiv_eq_ediv_of_nonneg (by omega)]; unfold wrap64; omega
      rw [if_pos (by omega), if_pos (by omega), et, ed, lits_pos 65536 n (by decide) h]
      have hlog : (n / 65536).log2 + 1 ≤ n.log2 ∨ n / 65536 = 0 := by
        by_cases h0 : n / 65536 = 0
        · exact Or.inr h0
        · left
          have h1 : 2 ^ (n / 65536).log2 ≤ n / 65536 := Nat.log2_self_le h0
          have h2 : 2 ^ ((n / 65536).log2 + 1) ≤ n := by rw [Nat.pow_succ]; omega
          exact (Nat.le_log2 h).2 h2
      rcases hlog with hlog | hz
      · rw [ih (n / 65536) (Nat.div_lt_self (by omega) (by decide)) _ k (by omega) (by simp; omega) (by omega)]
        simp
      · rw [hz]
        obtain ⟨k, rfl⟩ : ∃ m, k = m + 1 := ⟨k - 1, by omega⟩
        rw [Int.natCast_zero, Pr.spec_Small.l0, if_neg (by omega), lits_zero]
/-- spec.Small: the digits. -/
theorem small_f (n : Nat) (hn : n < 9223372036854775808) (k : Nat) (hk : 100 < k) : Pr.spec_Small.f k (n : Int) = some (lits 65536 n) := by
  have hlog : n.log2 < 63 ∨ n = 0 := by
    by_cases h : n = 0
    · exact Or.inr h
    · exact Or.inl ((Nat.log2_lt h).2 hn)
  unfold Pr.spec_Small.f
  rcases hlog with h | h
  · have := small_l0 n [] k hn (by simp; omega) (by omega)
    simpa using this
  · subst h
    have := small_l0 0 [] k (by decide) (by simp) (by simp; omega)
    simpa using this

theorem byDigit_nums (r x d : Nat) (hr : r ≤ 65534) (hx : x < 65536) : wrap64 ((r : Int) * 65536) = ((r * 65536 : Nat) : Int) ∧ wrap64 (((r * 65536 : Nat) : Int) + (x : Int)) = ((r * 65536 + x : Nat) : Int) ∧
    wrap64 (Int.tdiv ((r * 65536 + x : Nat) : Int) (d : Int)) = (((r * 65536 + x) / d : Nat) : Int) ∧ Int.tmod ((r * 65536 + x : Nat) : Int) (d : Int) = (((r * 65536 + x) % d : Nat) : Int) := by
  refine ⟨by unfold wrap64; omega, by unfold wrap64; omega, ?_, ?_⟩
  · rw [Int.tdiv_eq_ediv_of_nonneg (Int.natCast_nonneg _), ← Int.natCast_ediv]
    have h1 : (r * 65536 + x) / d ≤ r * 65536 + x := Nat.div_le_self _ _
    generalize (r * 65536 + x) / d = q at h1
    unfold wrap64; omega
  · rw [Int.tmod_eq_emod_of_nonneg (Int.natCast_nonneg _)]; exact (Int.natCast_emod _ _).symm
theorem wrap_pred (j : Nat) (h : j ≤ 1000000000) : wrap64 ((j : Int) - 1) = (j : Int) - 1 := by unfold wrap64; omega
theorem byDigit_l0 (xs : List Int) (d : Nat) (hR : InR 65536 xs) (hd : 1 ≤ d) (hd2 : d ≤ 65535) (hl : xs.length ≤ 1000000000) (j : Nat) : ∀ (k : Nat) (qs : List Int) (r : Nat), j ≤ xs.length → j + xs.length + 2 < k → InR 65536 qs → qs.length + j = xs.length → r < d →
    valL 65536 qs * d + r = valL 65536 (xs.drop j) →
    Pr.spec_byDigit.l0 k xs (d : Int) (List.replicate j 0 ++ qs) (r : Int) ((j : Int) - 1) = some (lits 65536 (valL 65536 xs / d), ((valL 65536 xs % d : Nat) : Int)) := by
  induction j with
  | zero =>
    intro k qs r _ hk hq hql hr hv
    obtain ⟨k, rfl⟩ : ∃ m, k = m + 1 := ⟨k - 1, by omega⟩
    rw [Pr.spec_byDigit.l0, if_neg (by omega), List.replicate_zero, List.nil_append, trim_f qs hq (by omega) k (by omega), Option.bind_some]
    rw [List.drop_zero] at hv
    have e1 : valL 65536 xs / d = valL 65536 qs := by
      rw [← hv, Nat.mul_comm, Nat.add_comm, Nat.add_mul_div_left _ _ (by omega), Nat.div_eq_of_lt hr, Nat.zero_add]
    have e2 : valL 65536 xs % d = r := by
      rw [← hv, Nat.mul_comm, Nat.add_comm, Nat.add_mul_mod_self_left, Nat.mod_eq_of_lt hr]
    rw [e1, e2]
  | succ j ih =>
    intro k qs r hj hk hq hql hr hv
    obtain ⟨k, rfl⟩ : ∃ m, k = m + 1 := ⟨k - 1, by omega⟩
    have ei : ((j + 1 : Nat) : Int) - 1 = (j : Int) := by omega
    rw [ei]
    have hx := hR _ (rd_mem xs j (by omega))
    obtain ⟨x, hx0⟩ := Int.eq_ofNat_of_zero_le hx.1
    have hxl : x < 65536 := by rw [hx0] at hx; omega
    have hrd : r ≤ 65534 := by omega
    obtain ⟨e1, e2, e3, e4⟩ := byDigit_nums r x d hrd hxl
    have c1 : (j : Int) ≥ 0 := Int.natCast_nonneg j
    have c3 : (j : Int) < (xs.length : Int) := by omega
    have c4 : ¬ ((d : Int) = 0) := by omega
    have c5 : (j : Int) < ((List.replicate (j + 1) (0 : Int) ++ qs).length : Int) := by simp; omega
    have e5 := wrap_pred j (by omega)
    rw [Pr.spec_byDigit.l0, if_pos c1, if_pos c1, if_pos c3, if_neg c4, if_pos c5, hx0, e1, e2, e3, e4, e5]
    clear e1 e2 e3 e4 e5 c1 c3 c4 c5
    have eset : (List.replicate (j + 1) (0 : Int) ++ qs).set ((j : Int)).toNat (((r * 65536 + x) / d : Nat) : Int) = List.replicate j 0 ++ ((((r * 65536 + x) / d : Nat) : Int) :: qs) := by
      rw [List.replicate_succ', List.append_assoc, Int.toNat_natCast, List.set_append_right _ _ (by simp)]
      simp
    rw [eset]
    have hqlt : (r * 65536 + x) / d < 65536 := by
      rw [Nat.div_lt_iff_lt_mul (by omega)]
      have : (r + 1) * 65536 ≤ d * 65536 := Nat.mul_le_mul_right _ (by omega)
      rw [Nat.mul_comm 65536 d]
      omega
    refine ih k _ _ (by omega) (by omega) ?_ (by simp; omega) (Nat.mod_lt _ (by omega)) ?_
    · intro y hy
      rcases List.mem_cons.1 hy with rfl | hy
      · exact ⟨Int.natCast_nonneg _, Int.ofNat_lt.2 hqlt⟩
      · exact hq y hy
    · have hdrop : xs.drop j = rd xs (j : Int) :: xs.drop (j + 1) := by
        rw [List.drop_eq_getElem_cons (by omega)]
        simp [rd, List.getD, List.getElem?_eq_getElem (show j < xs.length by omega)]
      rw [hdrop, hx0]
      simp only [valL, Int.toNat_natCast]
      rw [← hv]
      have hdm := Nat.div_add_mod (r * 65536 + x) d
      rw [Nat.add_mul, Nat.mul_add, Nat.mul_assoc]
      rw [Nat.mul_comm d] at hdm
      omega
/-- spec.byDigit: the quotient and the remainder. -/
theorem byDigit_f (n d : Nat) (hd : 1 ≤ d) (hd2 : d ≤ 65535) (hl : (lits 65536 n).length ≤ 1000000000) (k : Nat) (hk : 2 * (lits 65536 n).length + 2 < k) :
    Pr.spec_byDigit.f k (lits 65536 n) (d : Int) = some (lits 65536 (n / d), ((n % d : Nat) : Int)) := by
  have h := byDigit_l0 (lits 65536 n) d (InR_lits 65536 (by decide) n) hd hd2 hl (lits 65536 n).length k [] 0 (Nat.le_refl _) (by omega) (fun x hx => by cases hx) (by simp) (by omega) (by simp [valL])
  rw [valL_lits 65536 (by decide)] at h
  unfold Pr.spec_byDigit.f
  have e : wrap64 (((lits 65536 n).length : Int) - 1) = ((lits 65536 n).length : Int) - 1 := by unfold wrap64; omega
  rw [if_pos (by omega), if_pos (by omega), e]
  simpa using h
end Go.Proofs.YtgpoplfgngiilaaGreatDoor
