/- Plain laws: what Words, HasWords, Small, Cmp and same come to. -/
import Derived.Test.YtgpoplfgngiilaaGreatDoorM1
namespace Go.Proofs.YtgpoplfgngiilaaGreatDoor
open Go.RowKit Go.Proofs.YtgpoplfgngiilaaGreatDoorW.PrintWords Go.Proofs.YtgpoplfgngiilaaGreatDoorW.PrintMore

theorem bits_or_comm (k : IntKind) (x y : Int) : Go.bits .or k x y = Go.bits .or k y x := by
  simp only [Go.bits, BitVec.or_comm]

/-- d shifted by j figures. -/
theorem shl_fig (d : Int) (i : Nat) (h0 : 0 ≤ d) (h1 : d < 65536) (hi : i ≤ 1000000000) :
    shl .u64 (IntKind.u64.wrap d) (wrap64 (16 * (Int.tmod (i : Int) 4))) = d * 65536 ^ (i % 4) := by
  have e1 : Int.tmod (i : Int) 4 = ((i % 4 : Nat) : Int) := by rw [Int.tmod_eq_emod_of_nonneg (by omega)]; omega
  have e2 : wrap64 (16 * ((i % 4 : Nat) : Int)) = ((16 * (i % 4) : Nat) : Int) := by unfold wrap64; omega
  rw [e1, e2, wraps_u64 d h0 (by omega)]
  unfold shl
  have hm : i % 4 < 4 := Nat.mod_lt _ (by decide)
  have e3 : min ((16 * (i % 4) : Nat) : Int).toNat IntKind.u64.bits = 16 * (i % 4) := by simp [IntKind.bits]; omega
  rw [e3, Int.pow_mul]
  generalize i % 4 = j at hm
  have hj : j = 0 ∨ j = 1 ∨ j = 2 ∨ j = 3 := by omega
  rcases hj with rfl | rfl | rfl | rfl
  all_goals
    rw [wraps_u64]
    · rfl
    · simp; try omega
    · simp; omega
theorem or_fig (x d : Int) (j : Nat) (hj : j < 4) (h0 : 0 ≤ d) (h1 : d < 65536) (x0 : 0 ≤ x) (x1 : x < 65536 ^ j) : Go.bits .or .u64 x (d * 65536 ^ j) = x + d * 65536 ^ j := by
  rw [bits_or_comm]
  have hj : j = 0 ∨ j = 1 ∨ j = 2 ∨ j = 3 := by omega
  rcases hj with rfl | rfl | rfl | rfl
  · rw [or_u64 0 x _ (by simp; try omega) (by simp; try omega) (by simp; try omega) x0 (by simpa using x1) (by simp at x1; omega)]; omega
  · rw [or_u64 16 x _ (by simp; omega) (by simp; try omega) (by simp; omega) x0 (by simpa using x1) (by simp at x1; omega)]; omega
  · rw [or_u64 32 x _ (by simp; omega) (by simp; try omega) (by simp; omega) x0 (by simpa using x1) (by simp at x1; omega)]; omega
  · rw [or_u64 48 x _ (by simp; omega) (by simp; try omega) (by simp; omega) x0 (by simpa using x1) (by simp at x1; omega)]; omega

structure WInv (l : List Int) (i : Nat) (out : List Int) : Prop where
  len : out.length = (i + 3) / 4
  rng : InR 18446744073709551616 out
  val : valL 18446744073709551616 out = valL 65536 (l.take i)
  low : i % 4 ≠ 0 → rd out ((i / 4 : Nat) : Int) < 65536 ^ (i % 4)
  last : 0 < i → rd l ((i - 1 : Nat) : Int) ≠ 0 → rd out ((out.length - 1 : Nat) : Int) ≠ 0

theorem pow_W (i : Nat) : (18446744073709551616 : Nat) ^ (i / 4) * 65536 ^ (i % 4) = 65536 ^ i := by
  have e : (18446744073709551616 : Nat) = 65536 ^ 4 := by simp
  rw [e, ← Nat.pow_mul, ← Nat.pow_add, Nat.div_add_mod]

theorem winv_new (l : List Int) (i : Nat) (out : List Int) (hR : InR 65536 l) (hi : i < l.length) (h : WInv l i out) (h4 : i % 4 = 0) : WInv l (i + 1) (out ++ [rd l (i : Int)]) := by
  have hd := hR _ (rd_mem l i hi)
  have hlen : out.length = i / 4 := by have := h.len; omega
  refine ⟨by rw [List.length_append, hlen]; simp; omega, ?_, ?_, ?_, ?_⟩
  · intro x hx
    rcases List.mem_append.1 hx with hx | hx
    · exact h.rng x hx
    · simp at hx; subst hx; omega
  · rw [take_rd' l i hi, valL_append, valL_append, h.val, hlen, List.length_take, Nat.min_eq_left (by omega)]
    have := pow_W i
    rw [h4, Nat.pow_zero, Nat.mul_one] at this
    rw [this]
    simp [valL]
  · intro _
    have e : (i + 1) % 4 = 1 := by omega
    have e2 : (i + 1) / 4 = out.length := by omega
    rw [e, e2, rd_last]; simpa using hd.2
  · intro _ hne
    rw [Nat.add_sub_cancel] at hne
    have e : (out ++ [rd l (i : Int)]).length - 1 = out.length := by simp
    rw [e, rd_last]; exact hne

theorem winv_set (l : List Int) (i : Nat) (ys : List Int) (x : Int) (hR : InR 65536 l) (hi : i < l.length) (h : WInv l i (ys ++ [x])) (h4 : i % 4 ≠ 0) : WInv l (i + 1) (ys ++ [x + rd l (i : Int) * 65536 ^ (i % 4)]) := by
  have hd := hR _ (rd_mem l i hi)
  have hlen : ys.length = i / 4 := by have := h.len; simp at this; omega
  have hx := h.rng x (by simp)
  have hlow := h.low h4
  rw [← hlen, rd_last] at hlow
  have hm : i % 4 < 4 := Nat.mod_lt _ (by decide)
  have hp : (65536 : Int) ^ (i % 4 + 1) ≤ 18446744073709551616 := by
    have : i % 4 = 1 ∨ i % 4 = 2 ∨ i % 4 = 3 := by omega
    rcases this with e | e | e <;> rw [e] <;> decide
  have hp0 : (0 : Int) < 65536 ^ (i % 4) := Int.pow_pos (by decide)
  have hnn : 0 ≤ rd l (i : Int) * 65536 ^ (i % 4) := Int.mul_nonneg hd.1 (Int.le_of_lt hp0)
  have hb : x + rd l (i : Int) * 65536 ^ (i % 4) < 65536 ^ (i % 4 + 1) := by
    rw [Int.pow_succ]
    have h1 : (rd l (i : Int) + 1) * 65536 ^ (i % 4) ≤ 65536 * 65536 ^ (i % 4) := Int.mul_le_mul_of_nonneg_right (by omega) (Int.le_of_lt hp0)
    rw [Int.add_mul, Int.one_mul] at h1
    rw [Int.mul_comm (65536 ^ (i % 4)) 65536]
    omega
  refine ⟨by rw [List.length_append, hlen]; simp; omega, ?_, ?_, ?_, ?_⟩
  · intro y hy
    rcases List.mem_append.1 hy with hy | hy
    · exact h.rng y (by simp [hy])
    · simp at hy; subst hy; omega
  · have hv := h.val
    rw [valL_append, hlen] at hv
    rw [take_rd' l i hi, valL_append, valL_append, ← hv, hlen, List.length_take, Nat.min_eq_left (by omega), ← pow_W i]
    simp only [valL, Nat.mul_zero, Nat.add_zero]
    obtain ⟨m, hm2⟩ := Int.eq_ofNat_of_zero_le hx.1
    obtain ⟨q, hq⟩ := Int.eq_ofNat_of_zero_le hd.1
    rw [hm2, hq]
    have e : ((m : Int) + (q : Int) * 65536 ^ (i % 4)).toNat = m + q * 65536 ^ (i % 4) := by
      have : ((m : Int) + (q : Int) * 65536 ^ (i % 4)) = ((m + q * 65536 ^ (i % 4) : Nat) : Int) := by simp
      rw [this, Int.toNat_natCast]
    rw [e]
    simp only [Int.toNat_natCast, Nat.mul_add, Nat.add_assoc]
    rw [Nat.mul_assoc, Nat.mul_comm q]
  · intro h41
    have e : (i + 1) / 4 = ys.length := by omega
    have e2 : (i + 1) % 4 = i % 4 + 1 := by omega
    rw [e, e2, rd_last]; exact hb
  · intro _ hne
    rw [Nat.add_sub_cancel] at hne
    have e : (ys ++ [x + rd l (i : Int) * 65536 ^ (i % 4)]).length - 1 = ys.length := by simp
    rw [e, rd_last]
    have h1 : 1 * 65536 ^ (i % 4) ≤ rd l (i : Int) * 65536 ^ (i % 4) := Int.mul_le_mul_of_nonneg_right (by omega) (Int.le_of_lt hp0)
    omega

theorem words_l0 (l : List Int) (hR : InR 65536 l) (hl : l.length ≤ 1000000000) (d : Nat) : ∀ (i k : Nat) (out : List Int), i + d = l.length → d < k → WInv l i out →
    ∃ r, Pr.spec_Words.l0 k out l (l.length : Int) (i : Int) = some r ∧ WInv l l.length r := by
  induction d with
  | zero =>
    intro i k out hi hk hw
    obtain ⟨k, rfl⟩ : ∃ m, k = m + 1 := ⟨k - 1, by omega⟩
    obtain rfl : i = l.length := by omega
    exact ⟨out, by rw [Pr.spec_Words.l0, if_neg (by omega)], hw⟩
  | succ d ih =>
    intro i k out hi hk hw
    obtain ⟨k, rfl⟩ : ∃ m, k = m + 1 := ⟨k - 1, by omega⟩
    have hlt : i < l.length := by omega
    have hd := hR _ (rd_mem l i hlt)
    have et : Int.tmod (i : Int) 4 = ((i % 4 : Nat) : Int) := by rw [Int.tmod_eq_emod_of_nonneg (by omega)]; omega
    have ed : wrap64 (Int.tdiv (i : Int) 4) = ((i / 4 : Nat) : Int) := by rw [Int.tdiv_eq_ediv_of_nonneg (by omega)]; unfold wrap64; omega
    have e1 : wrap64 ((i : Int) + 1) = ((i + 1 : Nat) : Int) := by unfold wrap64; omega
    have es := shl_fig (rd l (i : Int)) i hd.1 hd.2 (by omega)
    have h16 : 0 ≤ wrap64 (16 * Int.tmod (i : Int) 4) := by rw [et]; unfold wrap64; omega
    rw [Pr.spec_Words.l0, if_pos (by omega), if_pos (by omega), if_pos (by omega), es, ed, e1]
    have hlen := hw.len
    by_cases h4 : i % 4 = 0
    · have hn := winv_new l i out hR hlt hw h4
      rw [if_pos (by rw [et, h4]; rfl), if_pos (by omega), Option.bind_some, if_pos (by omega), if_pos (by simp; omega), if_pos h16]
      have e0 : out.length = i / 4 := by omega
      rw [← e0, rd_last, h4]
      have eor : Go.bits .or .u64 0 (rd l (i : Int) * 65536 ^ 0) = rd l (i : Int) := by
        rw [or_fig 0 _ 0 (by decide) hd.1 hd.2 (by decide) (by decide)]; simp
      rw [eor]
      have eset : (out ++ [(0 : Int)]).set ((out.length : Nat) : Int).toNat (rd l (i : Int)) = out ++ [rd l (i : Int)] := by simp
      rw [eset]
      exact ih (i + 1) k _ (by omega) (by omega) hn
    · have hne : out ≠ [] := by
        intro e
        rw [e] at hlen
        simp at hlen; omega
      obtain ⟨ys, x, rfl⟩ : ∃ ys x, out = ys ++ [x] := by
        rcases List.eq_nil_or_concat out with h | ⟨ys, x, h⟩
        · exact absurd h hne
        · exact ⟨ys, x, by rw [h, List.concat_eq_append]⟩
      have hn := winv_set l i ys x hR hlt hw h4
      have e0 : ys.length = i / 4 := by simp at hlen; omega
      have hlow := hw.low h4
      rw [← e0, rd_last] at hlow
      have hx := hw.rng x (by simp)
      rw [if_neg (by rw [et]; omega), if_pos (by omega), if_pos (by simp; omega), if_pos h16, ← e0, rd_last,
        or_fig x _ (i % 4) (Nat.mod_lt _ (by decide)) hd.1 hd.2 hx.1 hlow]
      have eset : (ys ++ [x]).set ((ys.length : Nat) : Int).toNat (x + rd l (i : Int) * 65536 ^ (i % 4)) = ys ++ [x + rd l (i : Int) * 65536 ^ (i % 4)] := by simp
      rw [eset]
      exact ih (i + 1) k _ (by omega) (by omega) hn

/-- spec.Words of the digits of n: the words of n. -/
theorem words_f (n : Nat) (hl : (lits 65536 n).length ≤ 1000000000) (k : Nat) (hk : (lits 65536 n).length < k) : Pr.spec_Words.f k (lits 65536 n) = some (lits 18446744073709551616 n) := by
  obtain ⟨r, hr, hw⟩ := words_l0 (lits 65536 n) (InR_lits 65536 (by decide) n) hl (lits 65536 n).length 0 k [] (by omega) hk
    ⟨rfl, fun x hx => (by cases hx), by simp [valL], fun h => absurd rfl h, fun h => absurd h (Nat.lt_irrefl 0)⟩
  unfold Pr.spec_Words.f
  rw [show ((0 : Nat) : Int) = 0 from rfl] at hr
  rw [hr]
  congr 1
  have hv : valL 18446744073709551616 r = n := by rw [hw.val, List.take_length, valL_lits 65536 (by decide)]
  rcases List.eq_nil_or_concat r with h | ⟨ys, z, h⟩
  · subst h
    simp only [valL] at hv
    rw [← hv, lits_zero]
  · rw [List.concat_eq_append] at h
    subst h
    have hlz : (lits 65536 n).length ≠ 0 := by
      intro e
      have := hw.len
      rw [e] at this
      simp at this
    -- the last figure is not 0
    have hz := hw.rng z (by simp)
    have hzne : z ≠ 0 := by
      have h0 := hw.last (by omega) (by
        rcases List.eq_nil_or_concat (lits 65536 n) with e | ⟨qs, b, e⟩
        · rw [e] at hlz; exact absurd rfl hlz
        · rw [List.concat_eq_append] at e
          have hb := InR_lits 65536 (by decide) n b (by rw [e]; simp)
          rw [e]
          have e2 : (qs ++ [b]).length - 1 = qs.length := by simp
          rw [e2, rd_last]
          intro hb0
          subst hb0
          have h1 := lits_length_le 65536 (by decide) qs (fun y hy => InR_lits 65536 (by decide) n y (by rw [e]; simp [hy]))
          have h2 : valL 65536 qs = n := by rw [← lits_snoc_zero, ← e, valL_lits 65536 (by decide)]
          rw [h2, e] at h1
          simp at h1; omega)
      rw [show (ys ++ [z]).length - 1 = ys.length by simp, rd_last] at h0
      exact h0
    rw [← hv]
    exact (lits_of_last 18446744073709551616 (by decide) ys z hw.rng (by omega)).symm
end Go.Proofs.YtgpoplfgngiilaaGreatDoor
