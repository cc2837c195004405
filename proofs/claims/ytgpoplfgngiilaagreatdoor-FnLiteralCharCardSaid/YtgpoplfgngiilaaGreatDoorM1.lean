/- Plain laws: digits of a natural number, lowest first; what trim, Of, Words and HasWords come to. -/
import Derived.Test.YtgpoplfgngiilaaGreatDoorE2
namespace Go.Proofs.YtgpoplfgngiilaaGreatDoor
open Go.RowKit Go.Proofs.YtgpoplfgngiilaaGreatDoorW.PrintWords Go.Proofs.YtgpoplfgngiilaaGreatDoorW.PrintMore

/-- The digits of n to the base B, the lowest first, none 0 at the end. -/
def lits (B n : Nat) : List Int := if _h : n = 0 ∨ B < 2 then [] else ((n % B : Nat) : Int) :: lits B (n / B)
termination_by n
decreasing_by exact Nat.div_lt_self (by omega) (by omega)
/-- The value of digits. -/
def valL (B : Nat) : List Int → Nat
  | [] => 0
  | x :: r => x.toNat + B * valL B r
def InR (B : Nat) (xs : List Int) : Prop := ∀ x ∈ xs, 0 ≤ x ∧ x < (B : Int)

theorem lits_zero (B : Nat) : lits B 0 = [] := by rw [lits]; simp
theorem lits_pos (B n : Nat) (hB : 2 ≤ B) (hn : n ≠ 0) : lits B n = ((n % B : Nat) : Int) :: lits B (n / B) := by rw [lits]; rw [dif_neg (by omega)]
theorem valL_lits (B : Nat) (hB : 2 ≤ B) (n : Nat) : valL B (lits B n) = n := by
  induction n using Nat.strongRecOn with
  | _ n ih =>
    by_cases h : n = 0
    · subst h; rw [lits_zero]; rfl
    · rw [lits_pos B n hB h, valL, ih (n / B) (Nat.div_lt_self (by omega) (by omega))]
      have := Nat.mod_add_div n B
      simp only [Int.toNat_natCast]; omega
theorem InR_lits (B : Nat) (hB : 2 ≤ B) (n : Nat) : InR B (lits B n) := by
  induction n using Nat.strongRecOn with
  | _ n ih =>
    by_cases h : n = 0
    · subst h; rw [lits_zero]; intro x hx; cases hx
    · rw [lits_pos B n hB h]
      intro x hx
      rcases List.mem_cons.1 hx with rfl | hx
      · have := Nat.mod_lt n (show B > 0 by omega); omega
      · exact ih (n / B) (Nat.div_lt_self (by omega) (by omega)) x hx
theorem valL_append (B : Nat) (xs ys : List Int) : valL B (xs ++ ys) = valL B xs + B ^ xs.length * valL B ys := by
  induction xs with
  | nil => simp [valL]
  | cons x r ih => simp only [List.cons_append, valL, ih, List.length_cons, Nat.pow_succ, Nat.mul_add]; rw [Nat.mul_comm (B ^ r.length) B, Nat.mul_assoc]; omega
theorem valL_pos (B : Nat) (hB : 2 ≤ B) (xs : List Int) (z : Int) (hz : 0 < z) : 0 < valL B (xs ++ [z]) := by
  rw [valL_append]
  have h1 : 0 < B ^ xs.length := Nat.pow_pos (by omega)
  have h2 : 0 < valL B [z] := by simp only [valL]; omega
  have := Nat.mul_pos h1 h2
  omega
/-- Digits with none 0 at the end are the digits of their value. -/
theorem lits_of_last (B : Nat) (hB : 2 ≤ B) : ∀ (xs : List Int) (z : Int), InR B (xs ++ [z]) → 0 < z → lits B (valL B (xs ++ [z])) = xs ++ [z] := by
  intro xs
  induction xs with
  | nil =>
    intro z hR hz
    have hz2 := hR z (by simp)
    obtain ⟨m, rfl⟩ := Int.eq_ofNat_of_zero_le hz2.1
    simp only [List.nil_append, valL, Int.toNat_natCast, Nat.mul_zero, Nat.add_zero]
    rw [lits_pos B m hB (by omega), Nat.mod_eq_of_lt (by omega), Nat.div_eq_of_lt (by omega), lits_zero]
  | cons x r ih =>
    intro z hR hz
    have hx := hR x (by simp)
    obtain ⟨m, rfl⟩ := Int.eq_ofNat_of_zero_le hx.1
    have hp := valL_pos B hB r z hz
    have hi := ih z (fun y hy => hR y (by simp only [List.cons_append, List.mem_cons]; exact Or.inr hy)) hz
    simp only [List.cons_append, valL, Int.toNat_natCast]
    have hne : m + B * valL B (r ++ [z]) ≠ 0 := by
      have := Nat.mul_pos (show 0 < B by omega) hp
      omega
    rw [lits_pos B _ hB hne, Nat.add_mul_mod_self_left, Nat.mod_eq_of_lt (by omega), Nat.add_mul_div_left _ _ (by omega), Nat.div_eq_of_lt (by omega), Nat.zero_add, hi]
theorem lits_snoc_zero (B : Nat) (xs : List Int) : valL B (xs ++ [0]) = valL B xs := by rw [valL_append]; simp [valL]
theorem lits_length_le (B : Nat) (hB : 2 ≤ B) (xs : List Int) (hR : InR B xs) : (lits B (valL B xs)).length ≤ xs.length := by
  rcases List.eq_nil_or_concat xs with rfl | ⟨ys, z, rfl⟩
  · simp [valL, lits_zero]
  · rw [List.concat_eq_append] at hR ⊢
    have hz := hR z (by simp)
    by_cases h : z = 0
    · subst h
      rw [lits_snoc_zero]
      have := lits_length_le B hB ys (fun y hy => hR y (by simp [hy]))
      simp; omega
    · rw [lits_of_last B hB ys z hR (by omega)]; exact Nat.le_refl _
termination_by xs.length
decreasing_by all_goals (subst_vars; simp)

theorem rd_last (xs : List Int) (z : Int) : rd (xs ++ [z]) ((xs.length : Nat) : Int) = z := by simp [rd, List.getD]

/-- spec.trim leaves the digits of the value. -/
theorem trim_f (xs : List Int) (hR : InR 65536 xs) (hl : xs.length ≤ 1000000000000) : ∀ k, xs.length < k → Pr.spec_trim.f k xs = some (lits 65536 (valL 65536 xs)) := by
  intro k hk
  obtain ⟨k, rfl⟩ : ∃ m, k = m + 1 := ⟨k - 1, by omega⟩
  unfold Pr.spec_trim.f
  simp only [Pr.spec_trim.l0]
  rcases List.eq_nil_or_concat xs with rfl | ⟨ys, z, rfl⟩
  · rw [if_neg (by simp)]
    simp [valL, lits_zero]
  · rw [List.concat_eq_append] at hR hl hk ⊢
    have hz := hR z (by simp)
    have hw : wrap64 (((ys ++ [z]).length : Int) - 1) = (ys.length : Int) := by
      simp only [List.length_append, List.length_cons, List.length_nil] at hl ⊢
      unfold wrap64; omega
    rw [hw, rd_last]
    rw [if_pos (by simp; try omega), if_pos (by omega), if_pos (by simp; try omega)]
    by_cases h : z = 0
    · subst h
      rw [if_pos rfl, if_pos (by simp; try omega), lits_snoc_zero]
      have := trim_f ys (fun y hy => hR y (by simp [hy])) (by simp at hl; omega) k (by simp at hk; omega)
      unfold Pr.spec_trim.f at this
      have e : (ys ++ [(0 : Int)]).take ((ys.length : Int)).toNat = ys := by simp
      rw [e]
      exact this
    · rw [if_neg h, lits_of_last 65536 (by decide) ys z hR (by omega)]
termination_by xs.length
decreasing_by all_goals (subst_vars; simp)

theorem wraps_u64 (n : Int) (h0 : 0 ≤ n) (h1 : n < 2 ^ 64) : IntKind.u64.wrap n = n := by
  simp [IntKind.wrap, IntKind.bits, IntKind.signed]; omega
theorem and_low16 (x : Int) (h0 : 0 ≤ x) (h1 : x < 18446744073709551616) : Go.bits .and .u64 x 65535 = x % 65536 :=
  bits_mask .u64 64 (by decide) wraps_u64 16 (by decide) x h0 h1
theorem or_u64 (i : Nat) (x y : Int) (h0 : 0 ≤ y) (hy : y % 2 ^ i = 0) (hy1 : y < 18446744073709551616) (h1 : 0 ≤ x) (h2 : x < 2 ^ i) (h3 : x < 18446744073709551616) : Go.bits .or .u64 y x = y + x :=
  bits_join .u64 64 (by decide) wraps_u64 i y x h0 hy hy1 h1 h2 h3

/-- The figure number j of a word, base 65536. -/
def quad (x : Int) (j : Nat) : Int := x / 65536 ^ j % 65536
def quads (x : Int) : List Int := [quad x 0, quad x 1, quad x 2, quad x 3]
theorem quad_of (x : Int) (j : Nat) (hj : j < 4) (h0 : 0 ≤ x) (h1 : x < 18446744073709551616) :
    wrap64 (Go.bits .and .u64 (shr .u64 x (wrap64 (16 * (j : Int)))) 65535) = quad x j := by
  have hs : shr .u64 x (wrap64 (16 * (j : Int))) = x / 65536 ^ j := by
    have e : wrap64 (16 * (j : Int)) = 16 * (j : Int) := by unfold wrap64; omega
    rw [e]
    unfold shr
    have e2 : min (16 * (j : Int)).toNat IntKind.u64.bits = 16 * j := by simp [IntKind.bits]; omega
    rw [e2, Int.pow_mul]
    rfl
  rw [hs]
  have hp : (0 : Int) < 65536 ^ j := Int.pow_pos (by decide)
  have d0 : 0 ≤ x / 65536 ^ j := Int.ediv_nonneg h0 (Int.le_of_lt hp)
  have d1 : x / 65536 ^ j ≤ x := Int.ediv_le_self _ h0
  rw [and_low16 _ d0 (by omega)]
  unfold quad wrap64
  omega

theorem of_l1_step (k : Nat) (l : List Int) (x : Int) (ws : List Int) (n i : Int) (j : Nat) (hj : j < 4) (h0 : 0 ≤ x) (h1 : x < 18446744073709551616) (hl : l.length < 17592186044416) :
    Pr.spec_Of.l1 (k + 1) l x (j : Int) ws n i = Pr.spec_Of.l1 k (l ++ [quad x j]) x ((j + 1 : Nat) : Int) ws n i := by
  have e : wrap64 (16 * (j : Int)) = 16 * (j : Int) := by unfold wrap64; omega
  have e1 : wrap64 ((j : Int) + 1) = ((j + 1 : Nat) : Int) := by unfold wrap64; omega
  rw [Pr.spec_Of.l1, if_pos (by omega), if_pos (by rw [e]; omega), if_pos hl, quad_of x j hj h0 h1, e1]

theorem of_l1 (k : Nat) (l : List Int) (x : Int) (ws : List Int) (n i : Int) (h0 : 0 ≤ x) (h1 : x < 18446744073709551616) (hl : l.length + 4 < 17592186044416) :
    Pr.spec_Of.l1 (k + 5) l x 0 ws n i = Pr.spec_Of.l0 k (l ++ quads x) ws n (wrap64 (i + 1)) := by
  have s0 := of_l1_step (k + 4) l x ws n i 0 (by decide) h0 h1 (by omega)
  have s1 := of_l1_step (k + 3) (l ++ [quad x 0]) x ws n i 1 (by decide) h0 h1 (by simp; omega)
  have s2 := of_l1_step (k + 2) (l ++ [quad x 0] ++ [quad x 1]) x ws n i 2 (by decide) h0 h1 (by simp; omega)
  have s3 := of_l1_step (k + 1) (l ++ [quad x 0] ++ [quad x 1] ++ [quad x 2]) x ws n i 3 (by decide) h0 h1 (by simp; omega)
  refine s0.trans (s1.trans (s2.trans (s3.trans ?_)))
  rw [Pr.spec_Of.l1, if_neg (by decide)]
  simp [quads]

theorem quads_val (x : Int) (h0 : 0 ≤ x) (h1 : x < 18446744073709551616) : valL 65536 (quads x) = x.toNat := by
  obtain ⟨m, rfl⟩ := Int.eq_ofNat_of_zero_le h0
  simp only [quads, valL, quad]
  omega
theorem quads_R (x : Int) : InR 65536 (quads x) := by
  intro y hy
  simp only [quads, List.mem_cons, List.mem_nil_iff, or_false, quad] at hy
  rcases hy with rfl | rfl | rfl | rfl <;> omega
/-- The figures of words. -/
def quadsL : List Int → List Int
  | [] => []
  | x :: r => quads x ++ quadsL r
theorem quadsL_length (ws : List Int) : (quadsL ws).length = 4 * ws.length := by
  induction ws with
  | nil => rfl
  | cons x r ih => simp only [quadsL, List.length_append, ih, List.length_cons, quads, List.length_nil]; omega
theorem quadsL_R (ws : List Int) : InR 65536 (quadsL ws) := by
  induction ws with
  | nil => intro x hx; cases hx
  | cons x r ih =>
    intro y hy
    rcases List.mem_append.1 hy with h | h
    · exact quads_R x y h
    · exact ih y h
theorem quadsL_val (ws : List Int) (hR : InR 18446744073709551616 ws) : valL 65536 (quadsL ws) = valL 18446744073709551616 ws := by
  induction ws with
  | nil => rfl
  | cons x r ih =>
    have hx := hR x (by simp)
    rw [quadsL, valL_append, ih (fun y hy => hR y (by simp [hy])), quads_val x hx.1 hx.2, valL]
    have e : (65536 : Nat) ^ (quads x).length = 18446744073709551616 := by simp [quads]
    rw [e]
theorem quadsL_snoc (ws : List Int) (x : Int) : quadsL (ws ++ [x]) = quadsL ws ++ quads x := by
  induction ws with
  | nil => simp [quadsL]
  | cons y r ih => simp [quadsL, ih, List.append_assoc]

theorem rd_mem (ws : List Int) (i : Nat) (h : i < ws.length) : rd ws (i : Int) ∈ ws := by
  simp only [rd, Int.toNat_natCast, List.getD, List.getElem?_eq_getElem h, Option.getD_some]
  exact List.getElem_mem h
theorem take_rd' (ws : List Int) (i : Nat) (h : i < ws.length) : ws.take (i + 1) = ws.take i ++ [rd ws (i : Int)] := by
  rw [List.take_succ_eq_append_getElem h]
  simp [rd, List.getD, h]

theorem of_l0 (ws : List Int) (hR : InR 18446744073709551616 ws) (hl : ws.length ≤ 1000000000) (d : Nat) : ∀ (i k : Nat), i + d = ws.length → 7 * d + 4 * ws.length + 10 < k →
    Pr.spec_Of.l0 k (quadsL (ws.take i)) ws (ws.length : Int) (i : Int) = some (lits 65536 (valL 18446744073709551616 ws)) := by
  induction d with
  | zero =>
    intro i k hi hk
    obtain ⟨k, rfl⟩ : ∃ m, k = m + 1 := ⟨k - 1, by omega⟩
    obtain rfl : i = ws.length := by omega
    rw [Pr.spec_Of.l0, if_neg (by omega), List.take_length, trim_f _ (quadsL_R ws) (by rw [quadsL_length]; omega) k (by rw [quadsL_length]; omega), quadsL_val ws hR]
    rfl
  | succ d ih =>
    intro i k hi hk
    obtain ⟨k, rfl⟩ : ∃ m, k = (m + 5) + 1 := ⟨k - 6, by omega⟩
    have hlt : i < ws.length := by omega
    have hx := hR _ (rd_mem ws i hlt)
    rw [Pr.spec_Of.l0, if_pos (by omega), if_pos (by omega), if_pos (by omega), of_l1 k _ _ ws _ _ hx.1 hx.2 (by rw [quadsL_length]; simp; omega)]
    rw [← quadsL_snoc, ← take_rd' ws i hlt]
    have e : wrap64 ((i : Int) + 1) = ((i + 1 : Nat) : Int) := by unfold wrap64; omega
    rw [e]
    exact ih (i + 1) k (by omega) (by omega)
/-- spec.Of: the digits of the number that words are. -/
theorem of_f (ws : List Int) (hR : InR 18446744073709551616 ws) (hl : ws.length ≤ 1000000000) (k : Nat) (hk : 11 * ws.length + 10 < k) : Pr.spec_Of.f k ws = some (lits 65536 (valL 18446744073709551616 ws)) := by
  have := of_l0 ws hR hl ws.length 0 k (by omega) (by omega)
  unfold Pr.spec_Of.f
  simpa [quadsL] using this
end Go.Proofs.YtgpoplfgngiilaaGreatDoor
