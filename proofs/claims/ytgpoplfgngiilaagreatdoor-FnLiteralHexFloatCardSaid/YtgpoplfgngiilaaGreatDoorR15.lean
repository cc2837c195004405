/- FnLiteralHexFloat, behind its card (M8 M10 M9 X1). -/
import Derived.Test.YtgpoplfgngiilaaGreatDoorR14
import Derived.Test.YtgpoplfgngiilaaGreatDoorR04
import Derived.Test.YtgpoplfgngiilaaGreatDoorR09
import Derived.Test.YtgpoplfgngiilaaGreatDoorR06
import Derived.Test.YtgpoplfgngiilaaGreatDoorR05
import Derived.BigRegion
import Derived.Outline
import Derived.Deep.RegionHeld3
import Derived.Lib.Strings
import Derived.Deep.DeepCutAuto
import Derived.Deep.QuietTactic
import Derived.BigQuiet
set_option linter.unusedVariables false
set_option linter.unusedSimpArgs false
namespace Go.Proofs.YtgpoplfgngiilaaGreatDoor
open Go.RowKit Go.Proofs.YtgpoplfgngiilaaGreatDoorW.PrintWords Go.Proofs.YtgpoplfgngiilaaGreatDoorW.PrintMore

theorem len_l0 (t : Nat) : ∀ n : Nat, t < 65536 → n + t ≤ 100000000 → ∃ m : Nat, t < 2 ^ m ∧ (0 < t → 2 ^ m ≤ 2 * t) ∧ m ≤ t ∧ Ev (fun k => Pr.spec_Len.l0 k (n : Int) (t : Int)) ((n + m : Nat) : Int) := by
  induction t using Nat.strongRecOn with
  | _ t ih =>
    intro n ht hn
    by_cases h0 : t = 0
    · subst h0
      refine ⟨0, by decide, fun h => by omega, by omega, Ev.step (fun k => ?_) (Ev.now _)⟩
      rw [Pr.spec_Len.l0, if_neg (by omega)]
      rfl
    · obtain ⟨m, h1, h2, h3, h4⟩ := ih (t / 2) (by omega) (n + 1) (by omega) (by omega)
      refine ⟨m + 1, by rw [Nat.pow_succ]; omega, fun _ => ?_, by omega, ?_⟩
      · rw [Nat.pow_succ]
        by_cases h5 : 0 < t / 2
        · have := h2 h5; omega
        · have : m = 0 := by omega
          subst this
          simp; omega
      · rw [show n + 1 + m = n + (m + 1) by omega] at h4
        refine Ev.step (fun k => ?_) h4
        rw [Pr.spec_Len.l0, if_pos (by omega), show wrap64 ((n : Int) + 1) = ((n + 1 : Nat) : Int) by unfold wrap64; omega, show Int.tdiv ((t : Nat) : Int) 2 = ((t / 2 : Nat) : Int) from td_nat t 2, w64of _ (by omega) (by omega)]

/-- The last figure is not 0. -/
theorem lits_last (n : Nat) (hn : 0 < n) : ∃ (ys : List Int) (t : Nat), lits 65536 n = ys ++ [(t : Int)] ∧ 0 < t ∧ t < 65536 ∧ n = valL 65536 ys + 65536 ^ ys.length * t ∧ valL 65536 ys < 65536 ^ ys.length := by
  have hR := InR_lits 65536 (by decide) n
  rcases List.eq_nil_or_concat (lits 65536 n) with h | ⟨ys, z, h⟩
  · have := congrArg (valL 65536) h
    rw [valL_lits 65536 (by decide)] at this
    simp [valL] at this; omega
  · rw [List.concat_eq_append] at h
    have hz := hR z (by rw [h]; simp)
    obtain ⟨t, rfl⟩ := Int.eq_ofNat_of_zero_le hz.1
    have hRy : InR 65536 ys := fun y hy => hR y (by rw [h]; simp [hy])
    have hv : n = valL 65536 ys + 65536 ^ ys.length * t := by
      rw [← valL_one, ← h, valL_lits 65536 (by decide)]
    refine ⟨ys, t, h, ?_, by omega, hv, valL_lt ys hRy⟩
    refine Nat.pos_of_ne_zero fun h0 => ?_
    subst h0
    rw [Nat.mul_zero, Nat.add_zero] at hv
    have h1 := lits_length_le 65536 (by decide) ys hRy
    rw [← hv, h] at h1
    simp at h1; omega

/-- spec.Len: between which powers of 2 the number lies. -/
theorem len_ev (n : Nat) (hl : (lits 65536 n).length ≤ 100000) : ∃ L : Nat, Ev (fun k => Pr.spec_Len.f k (lits 65536 n)) (L : Int) ∧ n < 2 ^ L ∧ (0 < n → 2 ^ L ≤ 2 * n) ∧ (n = 0 → L = 0) := by
  by_cases h0 : n = 0
  · subst h0
    refine ⟨0, Ev.congr (fun k => ?_) (Ev.now _), by decide, fun h => by omega, fun _ => rfl⟩
    unfold Pr.spec_Len.f
    rw [lits_zero, if_pos (by simp)]
    rfl
  · obtain ⟨ys, t, e, ht0, ht, hv, hvl⟩ := lits_last n (by omega)
    have hyl : ys.length ≤ 100000 := by rw [e] at hl; simp at hl; omega
    obtain ⟨m, h1, h2, h3, h4⟩ := len_l0 t (16 * ys.length) ht (by omega)
    refine ⟨16 * ys.length + m, Ev.congr (fun k => ?_) h4, ?_, fun _ => ?_, fun h => absurd h h0⟩
    · unfold Pr.spec_Len.f
      rw [e]
      have w1 : wrap64 (((ys ++ [(t : Int)]).length : Int) - 1) = (ys.length : Int) := by simp; unfold wrap64; omega
      rw [w1, rd_last, if_neg (by simp; omega), if_pos (by omega), if_pos (by simp; omega), show wrap64 (16 * (ys.length : Int)) = ((16 * ys.length : Nat) : Int) by unfold wrap64; omega]
    · rw [Nat.pow_add, Nat.pow_mul, show (2 : Nat) ^ 16 = 65536 by decide]
      have : 65536 ^ ys.length * (t + 1) ≤ 65536 ^ ys.length * 2 ^ m := Nat.mul_le_mul_left _ h1
      rw [Nat.mul_add] at this
      omega
    · rw [Nat.pow_add, Nat.pow_mul, show (2 : Nat) ^ 16 = 65536 by decide]
      have : 65536 ^ ys.length * 2 ^ m ≤ 65536 ^ ys.length * (2 * t) := Nat.mul_le_mul_left _ (h2 ht0)
      rw [Nat.mul_left_comm] at this
      omega

theorem shl_small (x s : Nat) (hx : x < 65536) (hs : s < 16) : shl .i64 (x : Int) (s : Int) = ((x * 2 ^ s : Nat) : Int) ∧ x * 2 ^ s < 65536 * 2 ^ s ∧ 2 ^ s ≤ 32768 := by
  have h1 : 2 ^ s ≤ 2 ^ 15 := Nat.pow_le_pow_right (by decide) (by omega)
  have h2 : x * 2 ^ s < 65536 * 2 ^ s := Nat.mul_lt_mul_of_pos_right hx (Nat.pow_pos (by decide))
  have h3 : x * 2 ^ s ≤ 65536 * 2 ^ 15 := Nat.mul_le_mul (by omega) h1
  refine ⟨?_, h2, h1⟩
  unfold shl
  have e3 : min (s : Int).toNat IntKind.i64.bits = s := by simp [IntKind.bits]; omega
  rw [e3, show (x : Int) * 2 ^ s = ((x * 2 ^ s : Nat) : Int) by simp]
  generalize x * 2 ^ s = p at *
  simp [IntKind.wrap, IntKind.bits, IntKind.signed]
  omega

theorem shl_digit {x s c p : Nat} (hp : p = 2 ^ s) (hs : s < 16) (hc : c < p) : c + x * p % 65536 < 65536 := by
  have h16 : 65536 = 2 ^ (16 - s) * p := by rw [hp, ← Nat.pow_add, show 16 - s + s = 16 by omega]
  have hp0 : 0 < p := by rw [hp]; exact Nat.pow_pos (by decide)
  rw [h16, Nat.mul_comm x p, Nat.mul_comm (2 ^ (16 - s)) p, Nat.mul_mod_mul_left]
  have hm : x % 2 ^ (16 - s) < 2 ^ (16 - s) := Nat.mod_lt _ (Nat.pow_pos (by decide))
  have : p * (x % 2 ^ (16 - s) + 1) ≤ p * 2 ^ (16 - s) := Nat.mul_le_mul_left p hm
  rw [Nat.mul_add] at this
  omega

theorem shl_val {vp g c y : Nat} (hdm : 65536 * (y / 65536) + y % 65536 = y) : vp + g * (c + y % 65536) + g * 65536 * (y / 65536) = vp + g * c + g * y := by
  have e : g * y = g * 65536 * (y / 65536) + g * (y % 65536) := by rw [Nat.mul_assoc, ← Nat.mul_add, hdm]
  rw [e, Nat.mul_add]
  generalize g * 65536 * (y / 65536) = t1
  generalize g * (y % 65536) = t2
  generalize g * c = t3
  clear e hdm
  omega

end Go.Proofs.YtgpoplfgngiilaaGreatDoor
namespace Go.Proofs.YtgpoplfgngiilaaGreatDoor
open Go.RowKit Go.Proofs.YtgpoplfgngiilaaGreatDoorW.PrintWords Go.Proofs.YtgpoplfgngiilaaGreatDoorW.PrintMore

theorem byDigit_ev (n d : Nat) (hd : 1 ≤ d) (hd2 : d ≤ 65535) (hl : (lits 65536 n).length ≤ 100000) : Ev (fun k => Pr.spec_byDigit.f k (lits 65536 n) (d : Int)) (lits 65536 (n / d), ((n % d : Nat) : Int)) :=
  ⟨2 * (lits 65536 n).length + 3, fun k hk => byDigit_f n d hd hd2 (by omega) k (by omega)⟩

theorem dec_letter (d : Nat) (h : d < 10) : strOfNums [(wrap64 (48 + (d : Int))) % 256] = bstr [letter false d] := by
  have e : ((wrap64 (48 + (d : Int))) % 256).toNat = 48 + d := by unfold wrap64; omega
  unfold strOfNums bstr letter
  simp only [List.map_cons, List.map_nil, e, if_pos h]

theorem digits_l0 (n : Nat) : ∀ acc : List UInt8, (lits 65536 n).length ≤ 1000 → (lits 10 n).length + acc.length ≤ 1000000 →
    Ev (fun k => Pr.spec_Digits.l0 k (lits 65536 n) (bstr acc)) (bstr ((lits 10 n).reverse.map (fun d => letter false d.toNat) ++ acc)) := by
  induction n using Nat.strongRecOn with
  | _ n ih =>
    intro acc hl ha
    by_cases hn : n = 0
    · subst hn
      refine Ev.step (fun k => ?_) (Ev.now _)
      rw [Pr.spec_Digits.l0, lits_zero, lits_zero, if_neg (by simp)]
      simp
    · have hlen : (lits 65536 n).length ≠ 0 := fun h => hn ((lits_nil_iff 65536 n (by decide)).1 h)
      have hcons := lits_pos 10 n (by decide) hn
      have hl2 : (lits 10 n).length = (lits 10 (n / 10)).length + 1 := by rw [hcons]; rfl
      have hq : n / 10 < n := Nat.div_lt_self (by omega) (by decide)
      have hm := lits_len_mono 65536 n (n / 10) (by decide) (Nat.le_of_lt hq)
      have h := ih (n / 10) hq (letter false (n % 10) :: acc) (by omega) (by simp; omega)
      have h1 := byDigit_ev n 10 (by decide) (by decide) (by omega)
      refine Ev.step (fun k => ?_) (Ev.bind (f := fun k bt => ((some (([(wrap64 (48 + bt.2)) % 256] : List Int) : List Int)).bind fun y322 => (if (strOfNums y322).size + (bstr acc).size ≤ 9223372036854775807 then (Pr.spec_Digits.l0 k bt.1 ((strOfNums y322) ++ bstr acc)) else (none)))) h1 (Ev.congr (fun k => ?_) (f := fun k => Pr.spec_Digits.l0 k (lits 65536 (n / 10)) (bstr (letter false (n % 10) :: acc))) ?_))
      · rw [Pr.spec_Digits.l0, if_pos (by omega)]
        rfl
      · show ((some _).bind _) = _
        rw [Option.bind_some, dec_letter _ (Nat.mod_lt _ (by decide)), bstr_append, if_pos (by simp only [bstr_size, List.length_cons, List.length_nil]; omega)]
        rfl
      · rw [hcons]
        simp only [List.reverse_cons, List.map_append, List.map_cons, List.map_nil, Int.toNat_natCast, List.append_assoc, List.cons_append, List.nil_append]
        exact h

/-- spec.Digits: the decimal text. -/
theorem digits_ev (n : Nat) (hl : (lits 65536 n).length ≤ 1000) (hl2 : (lits 10 n).length ≤ 100000) : Ev (fun k => Pr.spec_Digits.f k (lits 65536 n)) (bstr (txt false 10 n)) := by
  by_cases hn : n = 0
  · subst hn
    refine Ev.congr (fun k => ?_) (Ev.now _)
    unfold Pr.spec_Digits.f
    rw [lits_zero, if_pos (by simp)]
    rfl
  · have hlen : (lits 65536 n).length ≠ 0 := fun h => hn ((lits_nil_iff 65536 n (by decide)).1 h)
    have h := digits_l0 n [] hl (by simp; omega)
    rw [List.append_nil] at h
    refine Ev.congr (fun k => ?_) (f := fun k => Pr.spec_Digits.l0 k (lits 65536 n) (bstr [])) ?_
    · unfold Pr.spec_Digits.f
      rw [if_neg (by omega)]
      rfl
    · have e : txt false 10 n = (lits 10 n).reverse.map (fun d => letter false d.toNat) := by unfold txt; rw [if_neg hn]
      rw [e]
      exact h

/-- The sign of an exponent. -/
def sgnS (x : Int) (plus : Bool) : List UInt8 := if x < 0 then [45] else if plus then [43] else []
/-- The text of an exponent. -/
def expS (c : UInt8) (x : Int) (plus : Bool) : List UInt8 := c :: (sgnS x plus ++ txt false 10 x.natAbs)

theorem exponent_ev (c : UInt8) (x : Int) (plus : Bool) (hx : x.natAbs ≤ 1000) : Ev (fun k => Pr.laws_exponent.f k (bstr [c]) x plus) (bstr (expS c x plus)) := by
  have hmx : mx x (wrap64 (-x)) = ((x.natAbs : Nat) : Int) := by unfold mx wrap64; split <;> omega
  have hl : (lits 65536 x.natAbs).length ≤ 1 := litsM_len 1 (by omega)
  have hl2 : (lits 10 x.natAbs).length ≤ 4 := (lits_figs 10 4 x.natAbs (by decide) (by omega)).2
  have ht : (txt false 10 x.natAbs).length ≤ 4 := by unfold txt; split <;> simp <;> omega
  have h1 := small_ev x.natAbs (by omega)
  have h2 := digits_ev x.natAbs (by omega) (by omega)
  rw [← hmx] at h1
  refine Ev.bind h1 (Ev.bind h2 (Ev.congr (fun k => ?_) (Ev.now _)))
  show (if x < 0 then _ else _) = _
  unfold expS sgnS
  by_cases h0 : x < 0
  · rw [if_pos h0, if_pos h0]
    show (if (bstr [c]).size + 1 ≤ 9223372036854775807 then (if (bstr [c] ++ bstr [45]).size + (bstr (txt false 10 x.natAbs)).size ≤ 9223372036854775807 then some (bstr [c] ++ bstr [45] ++ bstr (txt false 10 x.natAbs)) else none) else none) = _
    simp only [bstr_append, bstr_size]
    rw [if_pos (by simp), if_pos (by simp; omega)]
    rfl
  · rw [if_neg h0, if_neg h0]
    cases plus with
    | true =>
      rw [if_pos rfl, if_pos rfl]
      show (if (bstr [c]).size + 1 ≤ 9223372036854775807 then (if (bstr [c] ++ bstr [43]).size + (bstr (txt false 10 x.natAbs)).size ≤ 9223372036854775807 then some (bstr [c] ++ bstr [43] ++ bstr (txt false 10 x.natAbs)) else none) else none) = _
      simp only [bstr_append, bstr_size]
      rw [if_pos (by simp), if_pos (by simp; omega)]
      rfl
    | false =>
      rw [if_neg (by decide)]
      simp only [bstr_append, bstr_size]
      rw [if_pos (by simp; omega)]
      rfl
end Go.Proofs.YtgpoplfgngiilaaGreatDoor
namespace Go.Proofs.YtgpoplfgngiilaaGreatDoor

/-- Numerator and denominator in lowest terms. -/
def lowN (a b : Nat) : Nat := a / Nat.gcd a b
def lowD (a b : Nat) : Nat := b / Nat.gcd a b

theorem low_mul (a b k : Nat) (hk : 0 < k) : lowN (a * k) (b * k) = lowN a b ∧ lowD (a * k) (b * k) = lowD a b := by
  unfold lowN lowD
  rw [Nat.gcd_mul_right, Nat.mul_div_mul_right _ _ hk, Nat.mul_div_mul_right _ _ hk]
  exact ⟨rfl, rfl⟩
/-- Equal fractions have the same lowest terms. -/
theorem low_eq {a b c d : Nat} (hb : 0 < b) (hd : 0 < d) (h : a * d = c * b) : lowN a b = lowN c d ∧ lowD a b = lowD c d := by
  obtain ⟨h1, h2⟩ := low_mul a b d hd
  obtain ⟨h3, h4⟩ := low_mul c d b hb
  rw [← h1, ← h2, ← h3, ← h4, h, Nat.mul_comm b d]
  exact ⟨rfl, rfl⟩
theorem low_pos {a b : Nat} (hb : 0 < b) : 0 < lowD a b := Nat.div_pos (Nat.gcd_le_right _ hb) (Nat.gcd_pos_of_pos_right _ hb)
theorem low_back {a b : Nat} (_hb : 0 < b) : lowN a b * Nat.gcd a b = a ∧ lowD a b * Nat.gcd a b = b := ⟨Nat.div_mul_cancel (Nat.gcd_dvd_left a b), Nat.div_mul_cancel (Nat.gcd_dvd_right a b)⟩
theorem low_cross {a b : Nat} (hb : 0 < b) : lowN a b * b = a * lowD a b := by
  obtain ⟨h1, h2⟩ := low_back (a := a) hb
  generalize lowN a b = n at *
  generalize lowD a b = d at *
  generalize Nat.gcd a b = g at *
  subst h1
  subst h2
  simp only [Nat.mul_assoc, Nat.mul_left_comm, Nat.mul_comm]
theorem low_coprime {a b : Nat} (hb : 0 < b) : Nat.gcd (lowN a b) (lowD a b) = 1 := by
  unfold lowN lowD
  rw [Nat.gcd_div (Nat.gcd_dvd_left a b) (Nat.gcd_dvd_right a b), Nat.div_self (Nat.gcd_pos_of_pos_right _ hb)]
theorem low_zero (b : Nat) (hb : 0 < b) : lowN 0 b = 0 ∧ lowD 0 b = 1 := by
  unfold lowN lowD
  rw [Nat.gcd_zero_left, Nat.zero_div, Nat.div_self hb]
  exact ⟨rfl, rfl⟩
/-- A fraction in lowest terms times a fraction, in lowest terms. -/
theorem low_times {a b c d : Nat} (hb : 0 < b) (hd : 0 < d) : lowN (c * lowN a b) (d * lowD a b) = lowN (c * a) (d * b) ∧ lowD (c * lowN a b) (d * lowD a b) = lowD (c * a) (d * b) := by
  refine low_eq (Nat.mul_pos hd (low_pos hb)) (Nat.mul_pos hd hb) ?_
  have h := low_cross (a := a) hb
  calc c * lowN a b * (d * b) = c * d * (lowN a b * b) := by simp only [Nat.mul_assoc, Nat.mul_left_comm, Nat.mul_comm]
    _ = c * d * (a * lowD a b) := by rw [h]
    _ = c * a * (d * lowD a b) := by simp only [Nat.mul_assoc, Nat.mul_left_comm, Nat.mul_comm]
theorem low_le {a b : Nat} : lowN a b ≤ a ∧ lowD a b ≤ b := ⟨Nat.div_le_self _ _, Nat.div_le_self _ _⟩
end Go.Proofs.YtgpoplfgngiilaaGreatDoor
namespace Go.Proofs.YtgpoplfgngiilaaGreatDoor
open Go.RowKit Go.Proofs.YtgpoplfgngiilaaGreatDoorW.PrintWords Go.Proofs.YtgpoplfgngiilaaGreatDoorW.PrintLast Go.Proofs.YtgpoplfgngiilaaGreatDoorW.PrintMore

/-- v is a slice of these figures. -/
def Sl (w : World) (v : Value) (l : List Int) : Prop := ∃ A c, v = .slice A l.length c ∧ l.length ≤ c ∧ Kd.C (Kd.int .i64) w A l.length l
/-- v is the number n. -/
def SN (w : World) (v : Value) (n : Nat) : Prop := Sl w v (lits 65536 n)

theorem Sl.below {w w1 : World} {v : Value} {l : List Int} (h : Sl w v l) (hb : Below w.heap.size w w1) : Sl w1 v l := by
  obtain ⟨A, c, h1, h2, h3⟩ := h
  exact ⟨A, c, h1, h2, Kd.C_below h3 hb⟩
theorem SN.below {w w1 : World} {v : Value} {n : Nat} (h : SN w v n) (hb : Below w.heap.size w w1) : SN w1 v n := Sl.below h hb
theorem SN.fr {w w1 : World} {v : Value} {n : Nat} (h : SN w v n) (hb : Fr (fun _ => False) w w1) : SN w1 v n := h.below (hb.toBelow (Nat.le_refl _) (fun _ h => h.elim))
theorem Sl.ofV {e : Nat} {base : Nat} {ok : Nat → Prop} {w : World} {v : Value} {l : List Int} (h : Kd.V (Kd.int .i64) e w base ok v l) : Sl w v l := by
  obtain ⟨A, c, rfl⟩ := Kd.V_slice h
  exact ⟨A, c, rfl, (Kd.V_reads' h).2.1, (Kd.V_reads' h).2.2⟩
theorem Sl.ofR {e : Nat} {base : Nat} {ok : Nat → Prop} {w : World} {v : Value} {l : List Int} (h : Kd.R (Kd.int .i64) e w base ok v l) : Sl w v l := by
  obtain ⟨A, c, rfl, -⟩ := Kd.R_reads h
  exact ⟨A, c, rfl, (Kd.R_reads' h).2.1, (Kd.R_reads' h).2.2⟩
theorem Sl.toV {w : World} {A : Option Addr} {c : Nat} {l : List Int} (h : l.length ≤ c) (hC : Kd.C (Kd.int .i64) w A l.length l) (e base : Nat) : Kd.V (Kd.int .i64) e w base (fun _ => True) (.slice A l.length c) l := by
  refine Kd.V_mk h (fun W' hW => ?_)
  obtain ⟨h1, h2, h3⟩ := hC
  refine ⟨h1, h2, fun hn => ?_⟩
  obtain ⟨ad, e1, h4⟩ := h3 hn
  refine ⟨ad, e1, fun j p hj => ?_⟩
  obtain ⟨cs, h5, h6, h7⟩ := h4 j p hj
  refine ⟨cs, h5, h6, fun i u hu => ?_⟩
  have hc := h7 i u hu
  have hb : ∀ a : Addr, a.block < w.heap.size → W'.cell? a = w.cell? a := fun a ha => World.cell?_of_block (hW _ trivial ha)
  rw [hb _ (World.block_lt_of_cell? w _ hc)]
  exact hc
theorem SN.slice {w : World} {v : Value} {n : Nat} (h : SN w v n) : ∃ A c, v = .slice A (lits 65536 n).length c := by
  obtain ⟨A, c, h1, -⟩ := h
  exact ⟨A, c, h1⟩
theorem SN.zero (w : World) : SN w (.slice none 0 0) 0 := by
  unfold SN
  rw [lits_zero]
  exact ⟨none, 0, rfl, Nat.le_refl _, C_nil none⟩

/-- The ending of a call that hands back a number. -/
def ResN (n : Nat) (w : World) (e : Ending) (w' : World) : Prop := ∃ v, e = .returned v ∧ SN w' v n ∧ Below w.heap.size w w'

theorem drawn_below {w w' : World} (h : Drawn0 w w') : Below w.heap.size w w' := by
  obtain ⟨n, rfl⟩ := h
  exact pw_below_drewN (Below.refl _ _) n

def Small' (n : Nat) : Prop := (lits 65536 n).length ≤ 100000

theorem mul_c {w : World} {u v : Value} {a b : Nat} (hu : SN w u a) (hv : SN w v b) (ha : Small' a) (hb : Small' b) : Calls Tryz.prog 33 #[u, v] w (ResN (a * b) w) := by
  obtain ⟨A, c, rfl, h1, h2⟩ := hu
  obtain ⟨A', c', rfl, h3, h4⟩ := hv
  obtain ⟨k, hk⟩ := (mul_lits a b ha hb).rounds
  refine (Pr.spec_Mul.calls k A c _ A' c' _ _ w h2 h1 h4 h3 hk).mono ?_
  rintro e w' ⟨v, rfl, hV, hB⟩
  exact ⟨v, rfl, Sl.ofV hV, hB⟩
theorem add_c {w : World} {u v : Value} {a b : Nat} (hu : SN w u a) (hv : SN w v b) (ha : Small' a) (hb : Small' b) : Calls Tryz.prog 82 #[u, v] w (ResN (a + b) w) := by
  obtain ⟨A, c, rfl, h1, h2⟩ := hu
  obtain ⟨A', c', rfl, h3, h4⟩ := hv
  obtain ⟨k, hk⟩ := (add_lits a b ha hb).rounds
  refine (Pr.spec_Add.calls k A c _ A' c' _ _ w h2 h1 h4 h3 hk).mono ?_
  rintro e w' ⟨v, rfl, hV, hB⟩
  exact ⟨v, rfl, Sl.ofV hV, hB⟩
theorem sub_c {w : World} {u v : Value} {a b : Nat} (hu : SN w u a) (hv : SN w v b) (ha : Small' a) (hb : b ≤ a) : Calls Tryz.prog 81 #[u, v] w (ResN (a - b) w) := by
  obtain ⟨A, c, rfl, h1, h2⟩ := hu
  obtain ⟨A', c', rfl, h3, h4⟩ := hv
  obtain ⟨k, hk⟩ := (sub_lits a b ha hb).rounds
  refine (Pr.spec_Sub.calls k A c _ A' c' _ _ w h2 h1 h4 h3 hk).mono ?_
  rintro e w' ⟨v, rfl, hV, hB⟩
  exact ⟨v, rfl, Sl.ofV hV, hB⟩
theorem cmp_c {w : World} {u v : Value} {a b : Nat} (hu : SN w u a) (hv : SN w v b) (ha : Small' a) : Calls Tryz.prog 37 #[u, v] w fun e w' => e = .returned (.int .i64 (sg a b)) ∧ Below w.heap.size w w' := by
  obtain ⟨A, c, rfl, h1, h2⟩ := hu
  obtain ⟨A', c', rfl, h3, h4⟩ := hv
  obtain ⟨k, hk⟩ := (cmp_ev a b ha).rounds
  refine (Pr.spec_Cmp.calls k A c _ A' c' _ _ w h2 h1 h4 h3 hk).mono ?_
  rintro e w' ⟨rfl, hB⟩
  exact ⟨rfl, by first | exact hB | exact drawn_below hB⟩
theorem len_c {w : World} {u : Value} {a : Nat} (hu : SN w u a) (ha : Small' a) : ∃ L : Nat, a < 2 ^ L ∧ (0 < a → 2 ^ L ≤ 2 * a) ∧ (a = 0 → L = 0) ∧ ∀ w1, Below w.heap.size w w1 → Calls Tryz.prog 79 #[u] w1 fun e w' => e = .returned (.int .i64 (L : Int)) ∧ Below w1.heap.size w1 w' := by
  obtain ⟨A, c, rfl, h1, h2⟩ := hu
  obtain ⟨L, hE, e1, e2, e3⟩ := len_ev a ha
  obtain ⟨k, hk⟩ := hE.rounds
  refine ⟨L, e1, e2, e3, fun w1 hb => ?_⟩
  refine (Pr.spec_Len.calls k A c _ _ w1 (Kd.C_below h2 hb) h1 hk).mono ?_
  rintro e w' ⟨rfl, hB⟩
  exact ⟨rfl, by first | exact hB | exact drawn_below hB⟩
theorem small_c (w : World) (n : Nat) (hn : n < 9223372036854775808) : Calls Tryz.prog 28 #[.int .i64 n] w (ResN n w) := by
  obtain ⟨k, hk⟩ := (small_ev n hn).rounds
  refine (Pr.spec_Small.calls k _ _ w hk).mono ?_
  rintro e w' ⟨v, rfl, hV, hB⟩
  exact ⟨v, rfl, Sl.ofR hV, hB⟩
theorem power_c (w : World) (b n : Nat) (hb : b ≤ 16) (hn : n ≤ 5000) : Calls Tryz.prog 34 #[.int .i64 b, .int .i64 n] w (ResN (b ^ n) w) := by
  obtain ⟨k, hk⟩ := (power_ev b n hb hn).rounds
  refine (Pr.spec_Power.calls k _ _ _ w hk).mono ?_
  rintro e w' ⟨v, rfl, hV, hB⟩
  exact ⟨v, rfl, Sl.ofV hV, hB⟩
theorem byDigit_c {w : World} {u : Value} {a : Nat} (hu : SN w u a) (ha : Small' a) (d : Nat) (hd : 1 ≤ d) (hd2 : d ≤ 65535) : Calls Tryz.prog 24 #[u, .int .i64 d] w fun e w' => ∃ v, e = .returned (.tuple #[v, .int .i64 ((a % d : Nat) : Int)]) ∧ SN w' v (a / d) ∧ Below w.heap.size w w' := by
  obtain ⟨A, c, rfl, h1, h2⟩ := hu
  obtain ⟨k, hk⟩ := (byDigit_ev a d hd hd2 ha).rounds
  refine (Pr.spec_byDigit.calls k A c _ _ _ _ w h2 h1 hk).mono ?_
  rintro e w' ⟨v, rfl, hV, hB⟩
  exact ⟨v, rfl, Sl.ofV hV, hB⟩
theorem trim_c {w : World} {v : Value} {l : List Int} (hv : Sl w v l) (hR : InR 65536 l) (hl : l.length ≤ 1000000) : Calls Tryz.prog 29 #[v] w (ResN (valL 65536 l) w) := by
  obtain ⟨A, c, rfl, h1, h2⟩ := hv
  obtain ⟨k, hk⟩ := (trim_ev l hR hl).rounds
  refine (Pr.spec_trim.calls k (fun _ => True) A c l _ w (Sl.toV h1 h2 3 _) hk).mono ?_
  rintro e w' ⟨v, rfl, hV, hB⟩
  exact ⟨v, rfl, Sl.ofV hV, hB⟩
end Go.Proofs.YtgpoplfgngiilaaGreatDoor
