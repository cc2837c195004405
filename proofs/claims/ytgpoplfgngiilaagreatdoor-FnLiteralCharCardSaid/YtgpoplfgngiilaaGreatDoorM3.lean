/- Plain laws: what HasWords, Cmp, same, Small, byDigit and InBase come to. -/
import Derived.Test.YtgpoplfgngiilaaGreatDoorM2
namespace Go.Proofs.YtgpoplfgngiilaaGreatDoor
open Go.RowKit Go.Proofs.YtgpoplfgngiilaaGreatDoorW.PrintWords Go.Proofs.YtgpoplfgngiilaaGreatDoorW.PrintMore

theorem hasWords_l0 (ws vs : List Int) (hl : ws.length = vs.length) (hb : vs.length ≤ 1000000000) (d : Nat) : ∀ (i k : Nat), i + d = vs.length → d < k → ws.take i = vs.take i →
    ∃ b, Pr.spec_HasWords.l0 k ws vs (vs.length : Int) (i : Int) = some b ∧ (b = true ↔ ws = vs) := by
  induction d with
  | zero =>
    intro i k hi hk he
    obtain ⟨k, rfl⟩ : ∃ m, k = m + 1 := ⟨k - 1, by omega⟩
    obtain rfl : i = vs.length := by omega
    rw [List.take_length, ← hl, List.take_length] at he
    exact ⟨true, by rw [Pr.spec_HasWords.l0, if_neg (by omega)], by simp [he]⟩
  | succ d ih =>
    intro i k hi hk he
    obtain ⟨k, rfl⟩ : ∃ m, k = m + 1 := ⟨k - 1, by omega⟩
    have hlt : i < vs.length := by omega
    have e1 : wrap64 ((i : Int) + 1) = ((i + 1 : Nat) : Int) := by unfold wrap64; omega
    rw [Pr.spec_HasWords.l0, if_pos (by omega), if_pos (by omega), if_pos (by omega), if_pos (by omega)]
    by_cases h : rd ws (i : Int) = rd vs (i : Int)
    · rw [if_pos h, e1]
      exact ih (i + 1) k (by omega) (by omega) (by rw [take_rd' ws i (by omega), take_rd' vs i hlt, he, h])
    · rw [if_neg h]
      exact ⟨false, rfl, by constructor <;> intro h2; · cases h2
                            · subst h2; exact absurd rfl h⟩

theorem hasWords_f (ws : List Int) (n : Nat) (hl : (lits 65536 n).length ≤ 1000000000) (hl2 : (lits 18446744073709551616 n).length ≤ 1000000000) (k : Nat) (hk : (lits 65536 n).length + (lits 18446744073709551616 n).length < k) :
    ∃ b, Pr.spec_HasWords.f k ws (lits 65536 n) = some b ∧ (b = true ↔ ws = lits 18446744073709551616 n) := by
  unfold Pr.spec_HasWords.f
  rw [words_f n hl k (by omega), Option.bind_some]
  by_cases h : ws.length = (lits 18446744073709551616 n).length
  · rw [if_pos (by omega)]
    exact hasWords_l0 ws _ h hl2 (lits 18446744073709551616 n).length 0 k (by omega) (by omega) rfl
  · rw [if_neg (by omega)]
    exact ⟨false, rfl, by constructor <;> intro h2; · cases h2
                          · rw [h2] at h; exact absurd rfl h⟩

theorem cmp_l0 (l : List Int) (hb : l.length ≤ 1000000000) (d : Nat) : ∀ k, d < k → d ≤ l.length → Pr.spec_Cmp.l0 k l l ((d : Int) - 1) = some 0 := by
  induction d with
  | zero =>
    intro k hk _
    obtain ⟨k, rfl⟩ : ∃ m, k = m + 1 := ⟨k - 1, by omega⟩
    rw [Pr.spec_Cmp.l0, if_neg (by omega)]
  | succ d ih =>
    intro k hk hd
    obtain ⟨k, rfl⟩ : ∃ m, k = m + 1 := ⟨k - 1, by omega⟩
    rw [Pr.spec_Cmp.l0, if_pos (by omega), if_pos (by omega), if_pos (by omega), if_pos (by omega), if_neg (by omega), if_neg (by omega)]
    have e : wrap64 (((d + 1 : Nat) : Int) - 1 - 1) = (d : Int) - 1 := by unfold wrap64; omega
    rw [e]
    exact ih k (by omega) (by omega)
/-- spec.Cmp of a number with itself. -/
theorem cmp_f (l : List Int) (hb : l.length ≤ 1000000000) (k : Nat) (hk : l.length < k) : Pr.spec_Cmp.f k l l = some 0 := by
  unfold Pr.spec_Cmp.f
  rw [if_neg (by omega), if_neg (by omega)]
  have e : wrap64 ((l.length : Int) - 1) = (l.length : Int) - 1 := by unfold wrap64; omega
  rw [e]
  exact cmp_l0 l hb l.length k hk (Nat.le_refl _)
theorem same_f (a : Bool) (l m : List Int) (hb : l.length ≤ 1000000000) (hm : m.length ≤ 1000000000) (k : Nat) (hk : l.length < k) (hk2 : m.length < k) : Pr.spec_same.f k a l m a l m = some true := by
  unfold Pr.spec_same.f
  rw [if_pos (by simp), cmp_f l hb k hk, Option.bind_some, if_pos rfl, cmp_f m hm k hk2]
  rfl

theorem small_l0 (n : Nat) : ∀ (out : List Int) (k : Nat), n < 9223372036854775808 → out.length + n.log2 + 1 < 1000 → n.log2 + 2 < k → Pr.spec_Small.l0 k (n : Int) out = some (out ++ lits 65536 n) := by
  induction n using Nat.strongRecOn with
  | _ n ih =>
    intro out k hn ho hk
    obtain ⟨k, rfl⟩ : ∃ m, k = m + 1 := ⟨k - 1, by omega⟩
    rw [Pr.spec_Small.l0]
    by_cases h : n = 0
    · subst h
      rw [if_neg (by omega), lits_zero, List.append_nil]
    · have et : Int.tmod (n : Int) 65536 = ((n % 65536 : Nat) : Int) := by rw [Int.tmod_eq_emod_of_nonneg (by omega)]; omega
      have ed : wrap64 (Int.tdiv (n : Int) 65536) = ((n / 65536 : Nat) : Int) := by rw [Int.tdiv_eq_ediv_of_nonneg (by omega)]; unfold wrap64; omega
      rw [if_pos (by omega), if_pos (by omega), et, ed, lits_pos 65536 n (by decide) h]
      have hlog : (n / 65536).log2 + 1 ≤ n.log2 ∨ n / 65536 = 0 := by
        by_cases h0 : n / 65536 = 0
        · exact Or.inr h0
        · left
          have h1 : 2 ^ (n / 65536).log2 ≤ n / 65536 := Nat.log2_self_le h0
          have h2 : 2 ^ ((n / 65536).log2 + 1) ≤ n := by rw [Nat.pow_succ]; omega
          exact (Nat.le_log2 h).2 h2
      rcases hlog with hlog | hz
      · rw [ih (n / 65536) (Nat.div_lt_self (by omega) (by decide)) _ k (by omega) (by simp; omega) (by omega)]
        simp
      · rw [hz]
        obtain ⟨k, rfl⟩ : ∃ m, k = m + 1 := ⟨k - 1, by omega⟩
        rw [Int.natCast_zero, Pr.spec_Small.l0, if_neg (by omega), lits_zero]
/-- spec.Small: the digits. -/
theorem small_f (n : Nat) (hn : n < 9223372036854775808) (k : Nat) (hk : 100 < k) : Pr.spec_Small.f k (n : Int) = some (lits 65536 n) := by
  have hlog : n.log2 < 63 ∨ n = 0 := by
    by_cases h : n = 0
    · exact Or.inr h
    · exact Or.inl ((Nat.log2_lt h).2 hn)
  unfold Pr.spec_Small.f
  rcases hlog with h | h
  · have := small_l0 n [] k hn (by simp; omega) (by omega)
    simpa using this
  · subst h
    have := small_l0 0 [] k (by decide) (by simp) (by simp; omega)
    simpa using this

theorem byDigit_nums (r x d : Nat) (hr : r ≤ 65534) (hx : x < 65536) : wrap64 ((r : Int) * 65536) = ((r * 65536 : Nat) : Int) ∧ wrap64 (((r * 65536 : Nat) : Int) + (x : Int)) = ((r * 65536 + x : Nat) : Int) ∧
    wrap64 (Int.tdiv ((r * 65536 + x : Nat) : Int) (d : Int)) = (((r * 65536 + x) / d : Nat) : Int) ∧ Int.tmod ((r * 65536 + x : Nat) : Int) (d : Int) = (((r * 65536 + x) % d : Nat) : Int) := by
  refine ⟨by unfold wrap64; omega, by unfold wrap64; omega, ?_, ?_⟩
  · rw [Int.tdiv_eq_ediv_of_nonneg (Int.natCast_nonneg _), ← Int.natCast_ediv]
    have h1 : (r * 65536 + x) / d ≤ r * 65536 + x := Nat.div_le_self _ _
    generalize (r * 65536 + x) / d = q at h1
    unfold wrap64; omega
  · rw [Int.tmod_eq_emod_of_nonneg (Int.natCast_nonneg _)]; exact (Int.natCast_emod _ _).symm
theorem wrap_pred (j : Nat) (h : j ≤ 1000000000) : wrap64 ((j : Int) - 1) = (j : Int) - 1 := by unfold wrap64; omega
theorem byDigit_l0 (xs : List Int) (d : Nat) (hR : InR 65536 xs) (hd : 1 ≤ d) (hd2 : d ≤ 65535) (hl : xs.length ≤ 1000000000) (j : Nat) : ∀ (k : Nat) (qs : List Int) (r : Nat), j ≤ xs.length → j + xs.length + 2 < k → InR 65536 qs → qs.length + j = xs.length → r < d →
    valL 65536 qs * d + r = valL 65536 (xs.drop j) →
    Pr.spec_byDigit.l0 k xs (d : Int) (List.replicate j 0 ++ qs) (r : Int) ((j : Int) - 1) = some (lits 65536 (valL 65536 xs / d), ((valL 65536 xs % d : Nat) : Int)) := by
  induction j with
  | zero =>
    intro k qs r _ hk hq hql hr hv
    obtain ⟨k, rfl⟩ : ∃ m, k = m + 1 := ⟨k - 1, by omega⟩
    rw [Pr.spec_byDigit.l0, if_neg (by omega), List.replicate_zero, List.nil_append, trim_f qs hq (by omega) k (by omega), Option.bind_some]
    rw [List.drop_zero] at hv
    have e1 : valL 65536 xs / d = valL 65536 qs := by
      rw [← hv, Nat.mul_comm, Nat.add_comm, Nat.add_mul_div_left _ _ (by omega), Nat.div_eq_of_lt hr, Nat.zero_add]
    have e2 : valL 65536 xs % d = r := by
      rw [← hv, Nat.mul_comm, Nat.add_comm, Nat.add_mul_mod_self_left, Nat.mod_eq_of_lt hr]
    rw [e1, e2]
  | succ j ih =>
    intro k qs r hj hk hq hql hr hv
    obtain ⟨k, rfl⟩ : ∃ m, k = m + 1 := ⟨k - 1, by omega⟩
    have ei : ((j + 1 : Nat) : Int) - 1 = (j : Int) := by omega
    rw [ei]
    have hx := hR _ (rd_mem xs j (by omega))
    obtain ⟨x, hx0⟩ := Int.eq_ofNat_of_zero_le hx.1
    have hxl : x < 65536 := by rw [hx0] at hx; omega
    have hrd : r ≤ 65534 := by omega
    obtain ⟨e1, e2, e3, e4⟩ := byDigit_nums r x d hrd hxl
    have c1 : (j : Int) ≥ 0 := Int.natCast_nonneg j
    have c3 : (j : Int) < (xs.length : Int) := by omega
    have c4 : ¬ ((d : Int) = 0) := by omega
    have c5 : (j : Int) < ((List.replicate (j + 1) (0 : Int) ++ qs).length : Int) := by simp; omega
    have e5 := wrap_pred j (by omega)
    rw [Pr.spec_byDigit.l0, if_pos c1, if_pos c1, if_pos c3, if_neg c4, if_pos c5, hx0, e1, e2, e3, e4, e5]
    clear e1 e2 e3 e4 e5 c1 c3 c4 c5
    have eset : (List.replicate (j + 1) (0 : Int) ++ qs).set ((j : Int)).toNat (((r * 65536 + x) / d : Nat) : Int) = List.replicate j 0 ++ ((((r * 65536 + x) / d : Nat) : Int) :: qs) := by
      rw [List.replicate_succ', List.append_assoc, Int.toNat_natCast, List.set_append_right _ _ (by simp)]
      simp
    rw [eset]
    have hqlt : (r * 65536 + x) / d < 65536 := by
      rw [Nat.div_lt_iff_lt_mul (by omega)]
      have : (r + 1) * 65536 ≤ d * 65536 := Nat.mul_le_mul_right _ (by omega)
      rw [Nat.mul_comm 65536 d]
      omega
    refine ih k _ _ (by omega) (by omega) ?_ (by simp; omega) (Nat.mod_lt _ (by omega)) ?_
    · intro y hy
      rcases List.mem_cons.1 hy with rfl | hy
      · exact ⟨Int.natCast_nonneg _, Int.ofNat_lt.2 hqlt⟩
      · exact hq y hy
    · have hdrop : xs.drop j = rd xs (j : Int) :: xs.drop (j + 1) := by
        rw [List.drop_eq_getElem_cons (by omega)]
        simp [rd, List.getD, List.getElem?_eq_getElem (show j < xs.length by omega)]
      rw [hdrop, hx0]
      simp only [valL, Int.toNat_natCast]
      rw [← hv]
      have hdm := Nat.div_add_mod (r * 65536 + x) d
      rw [Nat.add_mul, Nat.mul_add, Nat.mul_assoc]
      rw [Nat.mul_comm d] at hdm
      omega
/-- spec.byDigit: the quotient and the remainder. -/
theorem byDigit_f (n d : Nat) (hd : 1 ≤ d) (hd2 : d ≤ 65535) (hl : (lits 65536 n).length ≤ 1000000000) (k : Nat) (hk : 2 * (lits 65536 n).length + 2 < k) :
    Pr.spec_byDigit.f k (lits 65536 n) (d : Int) = some (lits 65536 (n / d), ((n % d : Nat) : Int)) := by
  have h := byDigit_l0 (lits 65536 n) d (InR_lits 65536 (by decide) n) hd hd2 hl (lits 65536 n).length k [] 0 (Nat.le_refl _) (by omega) (fun x hx => by cases hx) (by simp) (by omega) (by simp [valL])
  rw [valL_lits 65536 (by decide)] at h
  unfold Pr.spec_byDigit.f
  have e : wrap64 (((lits 65536 n).length : Int) - 1) = ((lits 65536 n).length : Int) - 1 := by unfold wrap64; omega
  rw [if_pos (by omega), if_pos (by omega), e]
  simpa using h
end Go.Proofs.YtgpoplfgngiilaaGreatDoor
