/- FnLiteralHexFloat, behind its card (M6 M7). -/
import Derived.Test.YtgpoplfgngiilaaGreatDoorR13
import Derived.Test.YtgpoplfgngiilaaGreatDoorR05
set_option linter.unusedVariables false
set_option linter.unusedSimpArgs false
namespace Go.Proofs.YtgpoplfgngiilaaGreatDoor
open Go.RowKit Go.Proofs.YtgpoplfgngiilaaGreatDoorW.PrintWords Go.Proofs.YtgpoplfgngiilaaGreatDoorW.PrintMore

theorem w64of (x : Int) (h0 : -9223372036854775808 ≤ x) (h1 : x < 9223372036854775808) : wrap64 x = x := by unfold wrap64; omega
theorem w64n_ (a : Nat) (h : a ≤ 4611686018427387904) : wrap64 (a : Int) = (a : Int) := by unfold wrap64; omega
theorem w64s (a : Nat) (h : a ≤ 4611686018427387904) : wrap64 ((a : Int) + 1) = ((a + 1 : Nat) : Int) := by unfold wrap64; omega
theorem w64a (a b : Nat) (h : a + b ≤ 4611686018427387904) : wrap64 ((a : Int) + (b : Int)) = ((a + b : Nat) : Int) := by unfold wrap64; omega
theorem td_nat (a b : Nat) : Int.tdiv (a : Int) (b : Int) = ((a / b : Nat) : Int) := by rw [Int.tdiv_eq_ediv_of_nonneg (Int.natCast_nonneg _)]; exact (Int.natCast_ediv _ _).symm
theorem tm_nat (a b : Nat) : Int.tmod (a : Int) (b : Int) = ((a % b : Nat) : Int) := by rw [Int.tmod_eq_emod_of_nonneg (Int.natCast_nonneg _)]; exact (Int.natCast_emod _ _).symm

theorem trim_ev (xs : List Int) (hR : InR 65536 xs) (hl : xs.length ≤ 1000000) : Ev (fun k => Pr.spec_trim.f k xs) (lits 65536 (valL 65536 xs)) :=
  ⟨xs.length + 1, fun k hk => trim_f xs hR (by omega) k (by omega)⟩
theorem small_ev (n : Nat) (hn : n < 9223372036854775808) : Ev (fun k => Pr.spec_Small.f k (n : Int)) (lits 65536 n) := ⟨101, fun k hk => small_f n hn k (by omega)⟩

theorem inR_nat {xs : List Int} (hR : InR 65536 xs) (i : Nat) (h : i < xs.length) : ∃ x : Nat, rd xs (i : Int) = (x : Int) ∧ x < 65536 := by
  have := hR _ (rd_mem xs i h)
  exact ⟨(rd xs (i : Int)).toNat, by omega, by omega⟩

theorem mul_nums (c o x y : Nat) (hc : c < 65536) (ho : o < 65536) (hx : x < 65536) (hy : y < 65536) :
    wrap64 ((c : Int) + wrap64 ((o : Int) + wrap64 ((x : Int) * (y : Int)))) = ((c + o + x * y : Nat) : Int) ∧ (c + o + x * y) / 65536 < 65536 := by
  have h : x * y ≤ 65535 * 65535 := Nat.mul_le_mul (by omega) (by omega)
  rw [show (x : Int) * (y : Int) = ((x * y : Nat) : Int) by simp]
  generalize x * y = p at *
  refine ⟨?_, by omega⟩
  unfold wrap64; omega

theorem rd_mid (lo : List Int) (o : Int) (rest : List Int) : rd (lo ++ o :: rest) ((lo.length : Nat) : Int) = o := by simp [rd, List.getD]
theorem set_mid (lo : List Int) (o z : Int) (rest : List Int) : (lo ++ o :: rest).set ((lo.length : Nat) : Int).toNat z = lo ++ z :: rest := by simp

theorem mod_R (s : Nat) : 0 ≤ ((s % 65536 : Nat) : Int) ∧ ((s % 65536 : Nat) : Int) < ((65536 : Nat) : Int) := by omega
theorem mul_val_step {c o x y s vd vr vb p c' : Nat} (hs : c + o + x * y = s) (h : vd + p * c' = vr + x * vb + s / 65536) :
    s % 65536 + 65536 * vd + p * 65536 * c' = o + 65536 * vr + x * (y + 65536 * vb) + c := by
  have hdm := Nat.div_add_mod s 65536
  have e6 : 65536 * vd + 65536 * (p * c') = 65536 * (vr + x * vb + s / 65536) := by rw [← Nat.mul_add, h]
  rw [Nat.mul_add, Nat.mul_add] at e6
  rw [Nat.mul_add, Nat.mul_left_comm x 65536, Nat.mul_right_comm p, Nat.mul_comm (p * c')]
  generalize x * vb = t1 at *
  generalize x * y = t2 at *
  generalize p * c' = t3 at *
  omega

/-- The inner loop of Mul: a row and a figure times a number, in place. -/
theorem mul_l1 (a b : List Int) (x i : Nat) (la : Int) (hx : x < 65536) (hb : InR 65536 b) (hbl : b.length ≤ 1000000) (hi : i ≤ 1000000) (tail : List Int) (d : Nat) : ∀ (j c : Nat) (lo rest : List Int), j + d = b.length → rest.length = d → lo.length = i + j → c < 65536 → InR 65536 rest →
    ∃ (done : List Int) (c' : Nat), done.length = d ∧ InR 65536 done ∧ c' < 65536 ∧ valL 65536 done + 65536 ^ d * c' = valL 65536 rest + x * valL 65536 (b.drop j) + c ∧
      ∀ r, Ev (fun k => if 0 ≤ (wrap64 ((i : Int) + (b.length : Int))) then (if (wrap64 ((i : Int) + (b.length : Int))) < ((lo ++ done ++ tail).length : Int) then (Pr.spec_Mul.l0 k b ((lo ++ done ++ tail).set ((wrap64 ((i : Int) + (b.length : Int))) : Int).toNat (c' : Int)) a la (wrap64 ((i : Int) + 1))) else none) else none) r →
        Ev (fun k => Pr.spec_Mul.l1 k b (lo ++ rest ++ tail) (i : Int) (x : Int) (c : Int) a la (i : Int) b (b.length : Int) (j : Int)) r := by
  induction d with
  | zero =>
    intro j c lo rest hj hr hlo hc hR
    obtain rfl : rest = [] := List.length_eq_zero_iff.1 hr
    obtain rfl : j = b.length := by omega
    refine ⟨[], c, rfl, (fun _ h => by cases h), hc, by simp [valL], fun r hE => ?_⟩
    refine Ev.step (fun k => ?_) hE
    rw [Pr.spec_Mul.l1, if_neg (by omega)]
  | succ d ih =>
    intro j c lo rest hj hr hlo hc hR
    obtain ⟨o, rest, rfl⟩ : ∃ o r, rest = o :: r := by
      cases rest with
      | nil => simp at hr
      | cons o r => exact ⟨o, r, rfl⟩
    have ho := hR o (by simp)
    obtain ⟨on, rfl⟩ := Int.eq_ofNat_of_zero_le ho.1
    obtain ⟨y, hy, hyl⟩ := inR_nat hb j (by omega)
    obtain ⟨n1, n2⟩ := mul_nums c on x y hc (by omega) hx hyl
    obtain ⟨s, hs⟩ : ∃ s, c + on + x * y = s := ⟨_, rfl⟩
    rw [hs] at n1 n2
    have hm : s % 65536 < 65536 := Nat.mod_lt _ (by decide)
    obtain ⟨done, c', e1, e2, e3, e4, e5⟩ := ih (j + 1) (s / 65536) (lo ++ [((s % 65536 : Nat) : Int)]) rest (by omega) (by simpa using hr) (by simp; omega) n2 (fun z hz => hR z (by simp [hz]))
    refine ⟨((s % 65536 : Nat) : Int) :: done, c', by simp [e1], ?_, e3, ?_, fun r hE => ?_⟩
    · intro z hz
      rcases List.mem_cons.1 hz with rfl | hz
      · exact mod_R s
      · exact e2 z hz
    · have hd : b.drop j = (y : Int) :: b.drop (j + 1) := by
        rw [List.drop_eq_getElem_cons (by omega), ← hy]
        simp [rd, List.getD, List.getElem?_eq_getElem (show j < b.length by omega)]
      rw [hd]
      simp only [valL, Int.toNat_natCast]
      rw [Nat.pow_succ]
      exact mul_val_step hs e4
    · have e7 := e5 r (by simpa [List.append_assoc] using hE)
      refine Ev.step (f := fun k => Pr.spec_Mul.l1 k b (lo ++ [((s % 65536 : Nat) : Int)] ++ rest ++ tail) (i : Int) (x : Int) ((s / 65536 : Nat) : Int) a la (i : Int) b (b.length : Int) ((j + 1 : Nat) : Int)) (fun k => ?_) e7
      have w1 : wrap64 ((i : Int) + (j : Int)) = ((lo.length : Nat) : Int) := by rw [hlo]; exact w64a i j (by clear n1 n2 hs hm e4 hE e7 e5; omega)
      have w2 : wrap64 ((j : Int) + 1) = ((j + 1 : Nat) : Int) := w64s j (by clear n1 n2 hs hm e4 hE e7 e5; omega)
      have w3 : wrap64 ((s / 65536 : Nat) : Int) = ((s / 65536 : Nat) : Int) := w64n_ _ (by clear n1 hs hm e4 hE e7 e5; omega)
      have g1 : (j : Int) < (b.length : Int) := by clear n1 n2 hs hm e4 hE e7 e5; omega
      have g2 : (0 : Int) ≤ (j : Int) := Int.natCast_nonneg j
      have g3 : (0 : Int) ≤ ((lo.length : Nat) : Int) := Int.natCast_nonneg _
      have el : lo ++ ((on : Nat) : Int) :: rest ++ tail = lo ++ ((on : Nat) : Int) :: (rest ++ tail) := by simp
      have g4 : ((lo.length : Nat) : Int) < ((lo ++ ((on : Nat) : Int) :: rest ++ tail).length : Int) := by clear n1 n2 hs hm e4 hE e7 e5; simp; omega
      rw [Pr.spec_Mul.l1, if_pos g1, if_pos g2, if_pos g1, w1, if_pos g3, if_pos g4, el, rd_mid, hy, n1, w2]
      rw [show Int.tmod ((s : Nat) : Int) 65536 = ((s % 65536 : Nat) : Int) from tm_nat s 65536, show Int.tdiv ((s : Nat) : Int) 65536 = ((s / 65536 : Nat) : Int) from td_nat s 65536]
      rw [w3, set_mid]
      simp [List.append_assoc]

theorem mul_l0 (a b : List Int) (ha : InR 65536 a) (hb : InR 65536 b) (hal : a.length ≤ 100000) (hbl : b.length ≤ 100000) (d : Nat) : ∀ (i : Nat) (P : List Int), i + d = a.length → P.length = i + b.length → InR 65536 P → valL 65536 P = valL 65536 (a.take i) * valL 65536 b →
    Ev (fun k => Pr.spec_Mul.l0 k b (P ++ List.replicate d 0) a (a.length : Int) (i : Int)) (lits 65536 (valL 65536 a * valL 65536 b)) := by
  induction d with
  | zero =>
    intro i P hi hP hR hv
    obtain rfl : i = a.length := by omega
    rw [List.take_length] at hv
    have h := trim_ev P hR (by omega)
    rw [hv] at h
    refine Ev.step (fun k => ?_) (Ev.bind h (Ev.now _))
    rw [Pr.spec_Mul.l0, if_neg (by omega), List.replicate_zero, List.append_nil]
  | succ d ih =>
    intro i P hi hP hR hv
    obtain ⟨x, hx, hxl⟩ := inR_nat ha i (by omega)
    have h1 : P = P.take i ++ P.drop i := (List.take_append_drop i P).symm
    obtain ⟨done, c', e1, e2, e3, e4, e5⟩ := mul_l1 a b x i (a.length : Int) hxl hb (by omega) (by omega) (List.replicate (d + 1) 0) b.length 0 0 (P.take i) (P.drop i) (by omega) (by simp; omega) (by simp; omega) (by omega) (fun z hz => hR z (List.mem_of_mem_drop hz))
    have hE : Ev (fun k => Pr.spec_Mul.l0 k b ((P.take i ++ done ++ [(c' : Int)]) ++ List.replicate d 0) a (a.length : Int) ((i + 1 : Nat) : Int)) (lits 65536 (valL 65536 a * valL 65536 b)) := by
      refine ih (i + 1) _ (by omega) (by simp; omega) ?_ ?_
      · intro z hz
        rcases List.mem_append.1 hz with hz | hz
        · rcases List.mem_append.1 hz with hz | hz
          · exact hR z (List.mem_of_mem_take hz)
          · exact e2 z hz
        · simp only [List.mem_singleton] at hz
          omega
      · rw [List.append_assoc, valL_append, valL_append, e1]
        have hl : (P.take i).length = i := by simp; omega
        rw [hl]
        have h2 : valL 65536 P = valL 65536 (P.take i) + 65536 ^ i * valL 65536 (P.drop i) := by
          conv => lhs; rw [h1, valL_append, hl]
        rw [take_rd' a i (by omega), valL_append, hx]
        have hl2 : (a.take i).length = i := by simp; omega
        rw [hl2]
        simp only [valL, Int.toNat_natCast, Nat.mul_zero, Nat.add_zero, List.drop_zero] at e4 ⊢
        rw [e4, Nat.add_mul, ← hv, h2, Nat.mul_add]
        rw [Nat.mul_assoc]
        omega
    refine Ev.step (fun k => ?_) (e5 _ (Ev.congr (fun k => ?_) hE))
    · rw [Pr.spec_Mul.l0, if_pos (by omega), if_pos (by omega), if_pos (by omega), hx]
      rw [show P.take i ++ P.drop i = P from List.take_append_drop i P]
      rfl
    · have w1 : wrap64 ((i : Int) + (b.length : Int)) = (((P.take i ++ done).length : Nat) : Int) := by
        rw [List.length_append, e1]; simp only [List.length_take]; unfold wrap64; omega
      have w2 : wrap64 ((i : Int) + 1) = ((i + 1 : Nat) : Int) := by unfold wrap64; omega
      rw [w1, w2, if_pos (by omega), if_pos (by simp; omega), List.replicate_succ, set_mid]
      simp [List.append_assoc]

/-- spec.Mul: the product. -/
theorem mul_ev (a b : List Int) (ha : InR 65536 a) (hb : InR 65536 b) (hal : a.length ≤ 100000) (hbl : b.length ≤ 100000) : Ev (fun k => Pr.spec_Mul.f k a b) (lits 65536 (valL 65536 a * valL 65536 b)) := by
  have h := mul_l0 a b ha hb hal hbl a.length 0 (List.replicate b.length 0) (by omega) (by simp) (fun z hz => by obtain ⟨_, rfl⟩ := List.mem_replicate.1 hz; decide) (by
    have : ∀ n : Nat, valL 65536 (List.replicate n 0) = 0 := fun n => by
      induction n with
      | zero => rfl
      | succ n ih => simp [List.replicate_succ, valL, ih]
    rw [this]; simp [valL])
  refine Ev.congr (fun k => ?_) h
  have w1 : wrap64 ((a.length : Int) + (b.length : Int)) = ((a.length + b.length : Nat) : Int) := by unfold wrap64; omega
  unfold Pr.spec_Mul.f
  rw [w1, if_pos (by omega), if_pos (by omega), Int.toNat_natCast, Nat.add_comm, ← List.replicate_append_replicate]
  rfl

theorem litsM_len {n : Nat} (m : Nat) (h : n < 65536 ^ m) : (lits 65536 n).length ≤ m := (lits_figs 65536 m n (by decide) h).2

theorem mul_lits (a b : Nat) (ha : (lits 65536 a).length ≤ 100000) (hb : (lits 65536 b).length ≤ 100000) : Ev (fun k => Pr.spec_Mul.f k (lits 65536 a) (lits 65536 b)) (lits 65536 (a * b)) := by
  have h := mul_ev (lits 65536 a) (lits 65536 b) (InR_lits 65536 (by decide) a) (InR_lits 65536 (by decide) b) ha hb
  rwa [valL_lits 65536 (by decide), valL_lits 65536 (by decide)] at h

theorem pow_len {b n : Nat} (hb : b ≤ 16) : (lits 65536 (b ^ n)).length ≤ n + 1 := by
  refine litsM_len (n + 1) ?_
  have h1 : b ^ n ≤ 65536 ^ n := Nat.pow_le_pow_left (by omega) n
  have h2 : 65536 ^ n < 65536 ^ (n + 1) := Nat.pow_lt_pow_right (by decide) (by omega)
  omega

theorem power_l0 (b : Nat) (hb2 : b ≤ 16) (n : Nat) : ∀ i : Nat, i + n ≤ 5000 →
    Ev (fun k => Pr.spec_Power.l0 k (b : Int) (n : Int) (lits 65536 (b ^ i))) (lits 65536 (b ^ (i + n))) := by
  induction n with
  | zero =>
    intro i _
    refine Ev.step (fun k => ?_) (Ev.now _)
    rw [Pr.spec_Power.l0, if_neg (by omega)]
    rfl
  | succ n ih =>
    intro i hi
    have hl := pow_len (b := b) (n := i) hb2
    have h1 := small_ev b (by omega)
    have h2 := mul_lits (b ^ i) b (by omega) (by have := litsM_len (n := b) 1 (by omega); omega)
    have h3 := ih (i + 1) (by omega)
    rw [Nat.pow_succ] at h3
    rw [show i + 1 + n = i + (n + 1) by omega] at h3
    refine Ev.step (fun k => ?_) (Ev.bind (f := fun k t489 => (Pr.spec_Mul.f k (lits 65536 (b ^ i)) t489).bind fun t492 => Pr.spec_Power.l0 k (b : Int) (n : Int) t492) h1 (Ev.bind h2 h3))
    rw [Pr.spec_Power.l0, if_pos (by omega), show wrap64 (((n + 1 : Nat) : Int) - 1) = (n : Int) by unfold wrap64; omega]

/-- spec.Power. -/
theorem power_ev (b n : Nat) (hb2 : b ≤ 16) (hn : n ≤ 5000) : Ev (fun k => Pr.spec_Power.f k (b : Int) (n : Int)) (lits 65536 (b ^ n)) := by
  have h1 := power_l0 b hb2 n 0 (by omega)
  rw [Nat.zero_add, Nat.pow_zero] at h1
  exact Ev.bind (small_ev 1 (by decide)) h1
end Go.Proofs.YtgpoplfgngiilaaGreatDoor
namespace Go.Proofs.YtgpoplfgngiilaaGreatDoor
open Go.RowKit Go.Proofs.YtgpoplfgngiilaaGreatDoorW.PrintWords Go.Proofs.YtgpoplfgngiilaaGreatDoorW.PrintMore

/-- -1, 0 or 1. -/
def sg (a b : Nat) : Int := if a < b then -1 else if b < a then 1 else 0

theorem valL_lt (xs : List Int) (h : InR 65536 xs) : valL 65536 xs < 65536 ^ xs.length := by
  induction xs with
  | nil => simp [valL]
  | cons x r ih =>
    have hx := h x (by simp)
    have := ih (fun z hz => h z (by simp [hz]))
    simp only [valL, List.length_cons, Nat.pow_succ]
    generalize 65536 ^ r.length = p at *
    omega
theorem valL_take (xs : List Int) (i x : Nat) (h : i < xs.length) (hx : rd xs (i : Int) = (x : Int)) : valL 65536 (xs.take (i + 1)) = valL 65536 (xs.take i) + 65536 ^ i * x := by
  rw [take_rd' xs i h, valL_append, hx, List.length_take, Nat.min_eq_left (by omega)]
  simp [valL]
theorem inR_take {xs : List Int} (h : InR 65536 xs) (i : Nat) : InR 65536 (xs.take i) := fun z hz => h z (List.mem_of_mem_take hz)
theorem take_lt (xs : List Int) (h : InR 65536 xs) (i : Nat) (hi : i ≤ xs.length) : valL 65536 (xs.take i) < 65536 ^ i := by
  have := valL_lt (xs.take i) (inR_take h i)
  rwa [List.length_take, Nat.min_eq_left hi] at this

theorem sg_low {p u v x y : Nat} (hu : u < p) (hv : v < p) : (x < y → sg (u + p * x) (v + p * y) = -1) ∧ (y < x → sg (u + p * x) (v + p * y) = 1) ∧ (x = y → sg (u + p * x) (v + p * y) = sg u v) := by
  unfold sg
  refine ⟨fun h => ?_, fun h => ?_, fun h => ?_⟩
  · have : p * (x + 1) ≤ p * y := Nat.mul_le_mul_left p h
    rw [Nat.mul_add] at this
    rw [if_pos (by omega)]
  · have : p * (y + 1) ≤ p * x := Nat.mul_le_mul_left p h
    rw [Nat.mul_add] at this
    rw [if_neg (by omega), if_pos (by omega)]
  · subst h
    by_cases h1 : u < v
    · rw [if_pos (by omega), if_pos h1]
    · rw [if_neg (by omega), if_neg h1]
      by_cases h2 : v < u
      · rw [if_pos (by omega), if_pos h2]
      · rw [if_neg (by omega), if_neg h2]

theorem cmp_l0_ev (xs ys : List Int) (hx : InR 65536 xs) (hy : InR 65536 ys) (hl : xs.length = ys.length) (hb : xs.length ≤ 1000000) (j : Nat) : j ≤ xs.length →
    Ev (fun k => Pr.spec_Cmp.l0 k xs ys ((j : Int) - 1)) (sg (valL 65536 (xs.take j)) (valL 65536 (ys.take j))) := by
  induction j with
  | zero =>
    intro _
    refine Ev.step (fun k => ?_) (Ev.now _)
    rw [Pr.spec_Cmp.l0, if_neg (by omega)]
    simp [sg, valL]
  | succ j ih =>
    intro hj
    have h := ih (by omega)
    obtain ⟨x, ex, hx2⟩ := inR_nat hx j (by omega)
    obtain ⟨y, ey, hy2⟩ := inR_nat hy j (by omega)
    rw [valL_take xs j x (by omega) ex, valL_take ys j y (by omega) ey]
    obtain ⟨s1, s2, s3⟩ := sg_low (x := x) (y := y) (take_lt xs hx j (by omega)) (take_lt ys hy j (by omega))
    have ei : ((j + 1 : Nat) : Int) - 1 = (j : Int) := by omega
    have ew : wrap64 ((j : Int) - 1) = (j : Int) - 1 := by unfold wrap64; omega
    rw [ei]
    by_cases h1 : x < y
    · rw [s1 h1]
      refine Ev.step (fun k => ?_) (Ev.now _)
      rw [Pr.spec_Cmp.l0, if_pos (by omega), if_pos (by omega), if_pos (by omega), if_pos (by omega), ex, ey, if_pos (by omega)]
    · by_cases h2 : y < x
      · rw [s2 h2]
        refine Ev.step (fun k => ?_) (Ev.now _)
        rw [Pr.spec_Cmp.l0, if_pos (by omega), if_pos (by omega), if_pos (by omega), if_pos (by omega), ex, ey, if_neg (by omega), if_pos (by omega)]
      · rw [s3 (by omega)]
        refine Ev.step (fun k => ?_) h
        rw [Pr.spec_Cmp.l0, if_pos (by omega), if_pos (by omega), if_pos (by omega), if_pos (by omega), ex, ey, if_neg (by omega), if_neg (by omega), ew]

theorem cmp_ev (a b : Nat) (ha : (lits 65536 a).length ≤ 100000) : Ev (fun k => Pr.spec_Cmp.f k (lits 65536 a) (lits 65536 b)) (sg a b) := by
  unfold Pr.spec_Cmp.f
  by_cases h1 : (lits 65536 a).length < (lits 65536 b).length
  · have : a < b := Nat.lt_of_not_le fun h => by have := lits_len_mono 65536 a b (by decide) h; omega
    refine Ev.congr (fun k => ?_) (Ev.now _)
    rw [if_pos (by omega)]
    unfold sg
    rw [if_pos this]
  · by_cases h2 : (lits 65536 b).length < (lits 65536 a).length
    · have : b < a := Nat.lt_of_not_le fun h => by have := lits_len_mono 65536 b a (by decide) h; omega
      refine Ev.congr (fun k => ?_) (Ev.now _)
      rw [if_neg (by omega), if_pos (by omega)]
      unfold sg
      rw [if_neg (by omega), if_pos this]
    · have hl : (lits 65536 a).length = (lits 65536 b).length := by omega
      have h := cmp_l0_ev (lits 65536 a) (lits 65536 b) (InR_lits 65536 (by decide) a) (InR_lits 65536 (by decide) b) hl (by omega) _ (Nat.le_refl _)
      rw [List.take_length] at h
      rw [show (lits 65536 b).take (lits 65536 a).length = lits 65536 b by rw [hl]; exact List.take_length, valL_lits 65536 (by decide), valL_lits 65536 (by decide)] at h
      refine Ev.congr (fun k => ?_) h
      rw [if_neg (by omega), if_neg (by omega), w64of _ (by omega) (by omega)]

/-- The figure number i, 0 past the end. -/
def fg (xs : List Int) (i : Nat) : Nat := (xs.getD i 0).toNat
theorem fg_in {xs : List Int} (h : InR 65536 xs) {i : Nat} (hi : i < xs.length) : rd xs (i : Int) = ((fg xs i : Nat) : Int) ∧ fg xs i < 65536 := by
  obtain ⟨x, e, hx⟩ := inR_nat h i hi
  have : fg xs i = x := by
    unfold fg
    have e2 : xs.getD i 0 = rd xs (i : Int) := by simp [rd]
    rw [e2, e, Int.toNat_natCast]
  rw [this]
  exact ⟨e, hx⟩
theorem fg_out {xs : List Int} {i : Nat} (hi : xs.length ≤ i) : fg xs i = 0 := by
  unfold fg
  have : xs.getD i 0 = 0 := by simp [List.getD, List.getElem?_eq_none hi]
  rw [this]
  rfl
theorem fg_lt {xs : List Int} (h : InR 65536 xs) (i : Nat) : fg xs i < 65536 := by
  by_cases hi : i < xs.length
  · exact (fg_in h hi).2
  · rw [fg_out (by omega)]; decide
theorem valL_takeg {xs : List Int} (h : InR 65536 xs) (i : Nat) : valL 65536 (xs.take (i + 1)) = valL 65536 (xs.take i) + 65536 ^ i * fg xs i := by
  by_cases hi : i < xs.length
  · exact valL_take xs i _ hi (fg_in h hi).1
  · rw [fg_out (by omega), List.take_of_length_le (by omega), List.take_of_length_le (by omega)]
    simp
theorem valL_one (out : List Int) (m : Nat) : valL 65536 (out ++ [(m : Int)]) = valL 65536 out + 65536 ^ out.length * m := by
  rw [valL_append]; simp [valL]

theorem add_val {vo va vb p c x y s : Nat} (hs : c + x + y = s) (hv : vo + p * c = va + vb) : vo + p * (s % 65536) + p * 65536 * (s / 65536) = va + p * x + (vb + p * y) := by
  have hdm := Nat.div_add_mod s 65536
  have e : p * (s % 65536) + p * 65536 * (s / 65536) = p * c + p * x + p * y := by
    rw [Nat.mul_assoc, ← Nat.mul_add, ← Nat.mul_add, ← Nat.mul_add, hs]
    congr 1
    omega
  generalize p * 65536 * (s / 65536) = t at *
  generalize p * (s % 65536) = u at *
  generalize p * x = v1 at *
  generalize p * y = v2 at *
  generalize p * c = v3 at *
  clear hs hdm
  omega
theorem sub_val {vo va vb p c m x y c2 : Nat} (he : m + y + c = x + 65536 * c2) (hv : vo + vb = va + p * c) : vo + p * m + (vb + p * y) = va + p * x + p * 65536 * c2 := by
  have e : p * m + p * y + p * c = p * x + p * 65536 * c2 := by
    rw [Nat.mul_assoc, ← Nat.mul_add, ← Nat.mul_add, ← Nat.mul_add, he]
  generalize p * 65536 * c2 = t at *
  generalize p * m = u at *
  generalize p * x = v1 at *
  generalize p * y = v2 at *
  generalize p * c = v3 at *
  clear he
  omega
theorem snoc_R {out : List Int} (hR : InR 65536 out) (m : Nat) (hm : m < 65536) : InR 65536 (out ++ [(m : Int)]) := by
  intro z hz
  rcases List.mem_append.1 hz with hz | hz
  · exact hR z hz
  · simp only [List.mem_singleton] at hz; omega
theorem add3 (c x y : Nat) (hc : c ≤ 1) (hx : x < 65536) (hy : y < 65536) : wrap64 (wrap64 ((c : Int) + (x : Int)) + (y : Int)) = ((c + x + y : Nat) : Int) := by unfold wrap64; omega
theorem add2 (c x : Nat) (hc : c ≤ 1) (hx : x < 65536) : wrap64 ((c : Int) + (x : Int)) = ((c + x : Nat) : Int) := by unfold wrap64; omega
theorem add_bd (c x y : Nat) (hc : c ≤ 1) (hx : x < 65536) (hy : y < 65536) : (c + x + y) / 65536 ≤ 1 := by omega
theorem wq_ (s : Nat) (h : s / 65536 ≤ 1) : wrap64 (Int.tdiv ((s : Nat) : Int) 65536) = ((s / 65536 : Nat) : Int) := by rw [show Int.tdiv ((s : Nat) : Int) 65536 = ((s / 65536 : Nat) : Int) from td_nat s 65536]; exact w64n_ _ (by omega)

theorem add_l0 (a b : List Int) (ha : InR 65536 a) (hb : InR 65536 b) (hal : a.length ≤ 100000) (hbl : b.length ≤ 100000) (d : Nat) : ∀ (i c : Nat) (out : List Int), i + d = max a.length b.length → out.length = i → c ≤ 1 → InR 65536 out → valL 65536 out + 65536 ^ i * c = valL 65536 (a.take i) + valL 65536 (b.take i) →
    Ev (fun k => Pr.spec_Add.l0 k a b out (c : Int) (i : Int)) (lits 65536 (valL 65536 a + valL 65536 b)) := by
  induction d with
  | zero =>
    intro i c out hi ho hc hR hv
    rw [List.take_of_length_le (by omega), List.take_of_length_le (by omega)] at hv
    have h := trim_ev (out ++ [(c : Int)]) (snoc_R hR c (by omega)) (by simp; omega)
    rw [valL_one, ho, hv] at h
    refine Ev.step (f := fun k => Pr.spec_Add.j1 k a b out (c : Int) (i : Int) false) (fun k => ?_) (Ev.step (fun k => ?_) (Ev.bind h (Ev.now _)))
    · rw [Pr.spec_Add.l0, if_neg (by omega), decide_eq_false (by omega)]
    · rw [Pr.spec_Add.j1, if_neg (by decide), if_pos (by omega)]
  | succ d ih =>
    intro i c out hi ho hc hR hv
    have hfa := fg_lt ha i
    have hfb := fg_lt hb i
    have i0 : (0 : Int) ≤ (i : Int) := Int.natCast_nonneg i
    have ol : out.length < 17592186044416 := by omega
    have im : i < max a.length b.length := by omega
    have ea : i < a.length → rd a (i : Int) = ((fg a i : Nat) : Int) := fun h => (fg_in ha h).1
    have eb : i < b.length → rd b (i : Int) = ((fg b i : Nat) : Int) := fun h => (fg_in hb h).1
    have za : ¬ i < a.length → fg a i = 0 := fun h => fg_out (by omega)
    have zb : ¬ i < b.length → fg b i = 0 := fun h => fg_out (by omega)
    have i1 : i + 1 + d = max a.length b.length := by omega
    have i2 : i ≤ 4611686018427387904 := by omega
    have ol2 : ∀ z : Int, (out ++ [z]).length = i + 1 := fun z => by simp; omega
    have hbd := add_bd c _ _ hc hfa hfb
    have hor : ¬ i < a.length → i < b.length := fun h => by omega
    have wm : Int.tmod ((c + fg a i + fg b i : Nat) : Int) 65536 = (((c + fg a i + fg b i) % 65536 : Nat) : Int) := tm_nat (c + fg a i + fg b i) 65536
    have wq := wq_ _ hbd
    have n3 := add3 c _ _ hc hfa hfb
    have na := add2 c _ hc hfa
    have nb := add2 c _ hc hfb
    obtain ⟨s, hs⟩ : ∃ s, c + fg a i + fg b i = s := ⟨_, rfl⟩
    rw [hs] at wm wq n3 hbd
    have hm : s % 65536 < 65536 := Nat.mod_lt _ (by decide)
    have h := ih (i + 1) (s / 65536) (out ++ [((s % 65536 : Nat) : Int)]) i1 (ol2 _) hbd (snoc_R hR _ hm) (by
      rw [valL_takeg ha, valL_takeg hb, valL_one, ho, Nat.pow_succ]
      exact add_val hs hv)
    have w2 := w64s i i2
    clear hv hR hi ho hbd hm hc hfa hfb ih
    refine Ev.step (f := fun k => Pr.spec_Add.j1 k a b out (c : Int) (i : Int) true) (fun k => ?_) (Ev.step (fun k => ?_) h)
    · rw [Pr.spec_Add.l0]
      by_cases hla : i < a.length
      · rw [if_pos (Int.ofNat_lt.2 hla)]
      · rw [if_neg (fun h => hla (Int.ofNat_lt.1 h)), decide_eq_true (Int.ofNat_lt.2 (hor hla))]
    · rw [Pr.spec_Add.j1, if_pos rfl]
      by_cases hla : i < a.length
      · have la : (i : Int) < (a.length : Int) := Int.ofNat_lt.2 hla
        by_cases hlb : i < b.length
        · have lb : (i : Int) < (b.length : Int) := Int.ofNat_lt.2 hlb
          rw [if_pos la, if_pos i0, if_pos lb, if_pos ol, ea hla, eb hlb, n3, wq, wm, w2]
        · have lb : ¬ (i : Int) < (b.length : Int) := fun h => hlb (Int.ofNat_lt.1 h)
          rw [zb hlb, Nat.add_zero] at hs
          rw [hs] at na
          rw [if_pos la, if_pos i0, if_neg lb, if_pos ol, ea hla, na, wq, wm, w2]
      · have la : ¬ (i : Int) < (a.length : Int) := fun h => hla (Int.ofNat_lt.1 h)
        have hlb : i < b.length := hor hla
        have lb : (i : Int) < (b.length : Int) := Int.ofNat_lt.2 hlb
        rw [za hla, Nat.add_zero] at hs
        rw [hs] at nb
        rw [if_neg la, if_pos lb, if_pos i0, if_pos ol, eb hlb, nb, wq, wm, w2]

theorem add_lits (a b : Nat) (ha : (lits 65536 a).length ≤ 100000) (hb : (lits 65536 b).length ≤ 100000) : Ev (fun k => Pr.spec_Add.f k (lits 65536 a) (lits 65536 b)) (lits 65536 (a + b)) := by
  have h := add_l0 (lits 65536 a) (lits 65536 b) (InR_lits 65536 (by decide) a) (InR_lits 65536 (by decide) b) ha hb _ 0 0 [] (Nat.zero_add _) rfl (by decide) (fun _ h => by cases h) (by simp [valL])
  rwa [valL_lits 65536 (by decide), valL_lits 65536 (by decide)] at h

theorem subw2 (x c y : Nat) (hx : x < 65536) (hc : c ≤ 1) (hy : y < 65536) : wrap64 (wrap64 ((x : Int) - (c : Int)) - (y : Int)) = (x : Int) - (c : Int) - (y : Int) ∧ wrap64 ((x : Int) - (c : Int)) = (x : Int) - (c : Int) ∧ wrap64 ((x : Int) - (c : Int) - (y : Int) + 65536) = (x : Int) - (c : Int) - (y : Int) + 65536 ∧ wrap64 ((x : Int) - (c : Int) + 65536) = (x : Int) - (c : Int) + 65536 := by
  refine ⟨?_, ?_, ?_, ?_⟩ <;> (unfold wrap64; omega)
theorem sub_l0 (a b : List Int) (ha : InR 65536 a) (hb : InR 65536 b) (hal : a.length ≤ 100000) (hbl : b.length ≤ a.length) (hle : valL 65536 b ≤ valL 65536 a) (d : Nat) : ∀ (i c : Nat) (out : List Int), i + d = a.length → out.length = i → c ≤ 1 → InR 65536 out → valL 65536 out + valL 65536 (b.take i) = valL 65536 (a.take i) + 65536 ^ i * c →
    Ev (fun k => Pr.spec_Sub.l0 k b out (c : Int) a (a.length : Int) (i : Int)) (lits 65536 (valL 65536 a - valL 65536 b)) := by
  induction d with
  | zero =>
    intro i c out hi ho hc hR hv
    rw [List.take_of_length_le (by omega), List.take_of_length_le (by omega)] at hv
    have hol := valL_lt out hR
    rw [ho] at hol
    have hc0 : valL 65536 out = valL 65536 a - valL 65536 b := by
      have : c = 0 ∨ c = 1 := by omega
      generalize 65536 ^ i = p at *
      rcases this with rfl | rfl
      · omega
      · omega
    have h := trim_ev out hR (by omega)
    rw [hc0] at h
    refine Ev.step (fun k => ?_) (Ev.bind h (Ev.now _))
    rw [Pr.spec_Sub.l0, if_neg (by omega)]
  | succ d ih =>
    intro i c out hi ho hc hR hv
    have hia : i < a.length := by omega
    have hfa := fg_in ha hia
    have hfb := fg_lt hb i
    have eb : i < b.length → rd b (i : Int) = ((fg b i : Nat) : Int) := fun h => (fg_in hb h).1
    have zb : ¬ i < b.length → fg b i = 0 := fun h => fg_out (by omega)
    have i0 : (0 : Int) ≤ (i : Int) := Int.natCast_nonneg i
    have la : (i : Int) < (a.length : Int) := Int.ofNat_lt.2 hia
    have ol : out.length < 17592186044416 := by omega
    have i1 : i + 1 + d = a.length := by omega
    have i2 : i ≤ 4611686018427387904 := by omega
    have ol2 : ∀ z : Int, (out ++ [z]).length = i + 1 := fun z => by simp; omega
    have key : ∀ (m c2 : Nat), m < 65536 → c2 ≤ 1 → m + fg b i + c = fg a i + 65536 * c2 →
        Ev (fun k => Pr.spec_Sub.l0 k b (out ++ [(m : Int)]) (c2 : Int) a (a.length : Int) ((i + 1 : Nat) : Int)) (lits 65536 (valL 65536 a - valL 65536 b)) := by
      intro m c2 hm hc2 he
      refine ih (i + 1) c2 _ i1 (ol2 _) hc2 (snoc_R hR m hm) ?_
      rw [valL_takeg ha, valL_takeg hb, valL_one, ho, Nat.pow_succ]
      exact sub_val he hv
    have w2 := w64s i i2
    obtain ⟨u1, u2, u3, u4⟩ := subw2 (fg a i) c (fg b i) hfa.2 hc hfb
    obtain ⟨ea, hal2⟩ := hfa
    clear hv hR ih hi ho hia
    generalize fg a i = x at *
    generalize fg b i = y at *
    by_cases hlb : i < b.length
    · have lb : (i : Int) < (b.length : Int) := Int.ofNat_lt.2 hlb
      by_cases hneg : x < c + y
      · have g1 : (x : Int) - (c : Int) - (y : Int) < 0 := by clear u1 u2 u3 u4 w2; omega
        have n2 : (x : Int) - (c : Int) - (y : Int) + 65536 = ((x + 65536 - c - y : Nat) : Int) := by clear u1 u2 u3 u4 w2; omega
        refine Ev.step (fun k => ?_) (key (x + 65536 - c - y) 1 (by clear u1 u2 u3 u4 w2; omega) (by omega) (by clear u1 u2 u3 u4 w2; omega))
        rw [Pr.spec_Sub.l0, if_pos la, if_pos i0, if_pos la, if_pos lb, ea, eb hlb, u1, if_pos g1, if_pos ol, u3, n2, w2]
        rfl
      · have g1 : ¬ (x : Int) - (c : Int) - (y : Int) < 0 := by clear u1 u2 u3 u4 w2; omega
        have n2 : (x : Int) - (c : Int) - (y : Int) = ((x - c - y : Nat) : Int) := by clear u1 u2 u3 u4 w2; omega
        refine Ev.step (fun k => ?_) (key (x - c - y) 0 (by clear u1 u2 u3 u4 w2; omega) (by omega) (by clear u1 u2 u3 u4 w2; omega))
        rw [Pr.spec_Sub.l0, if_pos la, if_pos i0, if_pos la, if_pos lb, ea, eb hlb, u1, if_neg g1, if_pos ol, n2, w2]
        rfl
    · have lb : ¬ (i : Int) < (b.length : Int) := fun h => hlb (Int.ofNat_lt.1 h)
      obtain rfl : y = 0 := zb hlb
      by_cases hneg : x < c
      · have g1 : (x : Int) - (c : Int) < 0 := by clear u1 u2 u3 u4 w2; omega
        have n2 : (x : Int) - (c : Int) + 65536 = ((x + 65536 - c : Nat) : Int) := by clear u1 u2 u3 u4 w2; omega
        refine Ev.step (fun k => ?_) (key (x + 65536 - c) 1 (by clear u1 u2 u3 u4 w2; omega) (by omega) (by clear u1 u2 u3 u4 w2; omega))
        rw [Pr.spec_Sub.l0, if_pos la, if_pos i0, if_pos la, if_neg lb, ea, u2, if_pos g1, if_pos ol, u4, n2, w2]
        rfl
      · have g1 : ¬ (x : Int) - (c : Int) < 0 := by clear u1 u2 u3 u4 w2; omega
        have n2 : (x : Int) - (c : Int) = ((x - c : Nat) : Int) := by clear u1 u2 u3 u4 w2; omega
        refine Ev.step (fun k => ?_) (key (x - c) 0 (by clear u1 u2 u3 u4 w2; omega) (by omega) (by clear u1 u2 u3 u4 w2; omega))
        rw [Pr.spec_Sub.l0, if_pos la, if_pos i0, if_pos la, if_neg lb, ea, u2, if_neg g1, if_pos ol, n2, w2]
        rfl

theorem sub_lits (a b : Nat) (ha : (lits 65536 a).length ≤ 100000) (hle : b ≤ a) : Ev (fun k => Pr.spec_Sub.f k (lits 65536 a) (lits 65536 b)) (lits 65536 (a - b)) := by
  have h := sub_l0 (lits 65536 a) (lits 65536 b) (InR_lits 65536 (by decide) a) (InR_lits 65536 (by decide) b) ha (lits_len_mono 65536 a b (by decide) hle) (by rwa [valL_lits 65536 (by decide), valL_lits 65536 (by decide)]) _ 0 0 [] (Nat.zero_add _) rfl (by decide) (fun _ h => by cases h) (by simp [valL])
  rwa [valL_lits 65536 (by decide), valL_lits 65536 (by decide)] at h
end Go.Proofs.YtgpoplfgngiilaaGreatDoor
