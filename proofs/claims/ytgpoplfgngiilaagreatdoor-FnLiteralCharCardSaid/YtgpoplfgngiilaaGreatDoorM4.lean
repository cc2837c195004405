/- Plain laws: the text of a number in a base (InBase), and so many figures of base 16 (Hex). -/
import Derived.Test.YtgpoplfgngiilaaGreatDoorM3
namespace Go.Proofs.YtgpoplfgngiilaaGreatDoor
open Go.RowKit Go.Proofs.YtgpoplfgngiilaaGreatDoorW.PrintWords Go.Proofs.YtgpoplfgngiilaaGreatDoorW.PrintMore

/-- The letter of a figure. -/
def letter (great : Bool) (d : Nat) : UInt8 := UInt8.ofNat (if d < 10 then 48 + d else if great then 55 + d else 87 + d)
/-- The bytes of a number in a base, the highest figure first. -/
def txt (great : Bool) (b n : Nat) : List UInt8 := if n = 0 then [48] else (lits b n).reverse.map (fun d => letter great d.toNat)
def bstr (l : List UInt8) : ByteArray := ⟨l.toArray⟩
theorem bstr_append (l m : List UInt8) : bstr l ++ bstr m = bstr (l ++ m) := by
  apply ByteArray.ext
  simp [bstr, ByteArray.data_append]
theorem bstr_size (l : List UInt8) : (bstr l).size = l.length := by simp [bstr, ByteArray.size]

def lettersOf (great : Bool) : ByteArray := if great then ⟨#[48, 49, 50, 51, 52, 53, 54, 55, 56, 57, 65, 66, 67, 68, 69, 70]⟩ else ⟨#[48, 49, 50, 51, 52, 53, 54, 55, 56, 57, 97, 98, 99, 100, 101, 102]⟩
theorem lettersOf_size (g : Bool) : (lettersOf g).size = 16 := by cases g <;> rfl
theorem letter_extract (g : Bool) (d : Nat) (h : d < 16) : (lettersOf g).extract d (d + 1) = bstr [letter g d] := by
  have : d = 0 ∨ d = 1 ∨ d = 2 ∨ d = 3 ∨ d = 4 ∨ d = 5 ∨ d = 6 ∨ d = 7 ∨ d = 8 ∨ d = 9 ∨ d = 10 ∨ d = 11 ∨ d = 12 ∨ d = 13 ∨ d = 14 ∨ d = 15 := by omega
  cases g <;> rcases this with rfl | rfl | rfl | rfl | rfl | rfl | rfl | rfl | rfl | rfl | rfl | rfl | rfl | rfl | rfl | rfl <;> rfl

theorem inBase_nums (d : Nat) (h : d < 16) : wrap64 ((d : Int) + 1) = ((d + 1 : Nat) : Int) := by unfold wrap64; omega

theorem lits_len_mono (B n m : Nat) (hB : 2 ≤ B) (h : m ≤ n) : (lits B m).length ≤ (lits B n).length := by
  induction n using Nat.strongRecOn generalizing m with
  | _ n ih =>
    by_cases hm : m = 0
    · subst hm; rw [lits_zero]; exact Nat.zero_le _
    · rw [lits_pos B m hB hm, lits_pos B n hB (by omega), List.length_cons, List.length_cons]
      have := ih (n / B) (Nat.div_lt_self (by omega) (by omega)) (m / B) (Nat.div_le_div_right h)
      omega

theorem lits_nil_iff (B n : Nat) (hB : 2 ≤ B) : (lits B n).length = 0 ↔ n = 0 := by
  constructor
  · intro h
    by_cases hn : n = 0
    · exact hn
    · rw [lits_pos B n hB hn] at h; simp at h
  · rintro rfl; rw [lits_zero]; rfl

theorem inBase_l0 (great : Bool) (b : Nat) (hb : 2 ≤ b) (hb2 : b ≤ 16) (M : Nat) (hM : M ≤ 1000000000) (n : Nat) : ∀ (k : Nat) (acc : List UInt8), (lits 65536 n).length ≤ M → (lits b n).length + acc.length ≤ 1000000000 → (lits b n).length + 2 * M + 3 < k →
    Pr.spec_InBase.l0 k (lits 65536 n) (b : Int) (lettersOf great) (bstr acc) = some (bstr ((lits b n).reverse.map (fun d => letter great d.toNat) ++ acc)) := by
  induction n using Nat.strongRecOn with
  | _ n ih =>
    intro k acc hl ha hk
    obtain ⟨k, rfl⟩ : ∃ m, k = m + 1 := ⟨k - 1, by omega⟩
    by_cases hn : n = 0
    · subst hn
      rw [Pr.spec_InBase.l0, lits_zero, lits_zero, if_neg (by simp)]
      simp
    · have hlen : (lits 65536 n).length ≠ 0 := fun h => hn ((lits_nil_iff 65536 n (by decide)).1 h)
      have hd : n % b < 16 := Nat.lt_of_lt_of_le (Nat.mod_lt _ (by omega)) hb2
      have hcons := lits_pos b n hb hn
      have hl2 : (lits b n).length = (lits b (n / b)).length + 1 := by rw [hcons]; rfl
      have hq : n / b < n := Nat.div_lt_self (by omega) (by omega)
      have hm := lits_len_mono 65536 n (n / b) (by decide) (Nat.le_of_lt hq)
      rw [Pr.spec_InBase.l0, if_pos (by omega), byDigit_f n b (by omega) (by omega) (by omega) k (by omega), Option.bind_some]
      simp only [inBase_nums _ hd]
      rw [if_pos (by omega), if_pos (by omega), if_pos (by rw [lettersOf_size]; omega), Int.toNat_natCast, Int.toNat_natCast, letter_extract great _ hd, bstr_append, if_pos (by simp only [bstr_size, List.length_cons, List.length_nil]; omega)]
      rw [ih (n / b) hq k _ (by omega) (by simp; omega) (by omega), hcons]
      simp only [List.reverse_cons, List.map_append, List.map_cons, List.map_nil, Int.toNat_natCast, List.append_assoc, List.cons_append, List.nil_append]
/-- spec.InBase. -/
theorem inBase_f (great : Bool) (b n : Nat) (hb : 2 ≤ b) (hb2 : b ≤ 16) (hl : (lits 65536 n).length ≤ 1000000000) (hl2 : (lits b n).length ≤ 1000000000) (k : Nat) (hk : (lits b n).length + 2 * (lits 65536 n).length + 5 < k) :
    Pr.spec_InBase.f k (lits 65536 n) (b : Int) great = some (bstr (txt great b n)) := by
  unfold Pr.spec_InBase.f txt
  by_cases hn : n = 0
  · subst hn
    rw [lits_zero]
    rfl
  · have hlen : (lits 65536 n).length ≠ 0 := fun h => hn ((lits_nil_iff 65536 n (by decide)).1 h)
    obtain ⟨k, rfl⟩ : ∃ m, k = m + 1 := ⟨k - 1, by omega⟩
    have h := inBase_l0 great b hb hb2 (lits 65536 n).length hl n k [] (Nat.le_refl _) (by simpa using hl2) (by omega)
    rw [if_neg (by omega), if_neg hn]
    rw [List.append_nil] at h
    cases great with
    | true => rw [if_pos rfl, Pr.spec_InBase.j0]; exact h
    | false => rw [if_neg (by decide), Pr.spec_InBase.j0]; exact h

/-- f figures of base B of n, the highest first. -/
def figs (B f n : Nat) : List Nat := match f with
  | 0 => []
  | f + 1 => figs B f (n / B) ++ [n % B]
theorem figs_length (B f n : Nat) : (figs B f n).length = f := by
  induction f generalizing n with
  | zero => rfl
  | succ f ih => simp [figs, ih]
theorem figs_zero (B f : Nat) : figs B f 0 = List.replicate f 0 := by
  induction f with
  | zero => rfl
  | succ f ih => rw [figs, Nat.zero_div, ih, Nat.zero_mod, List.replicate_succ']
theorem figs_get (B f n j : Nat) (h : j < f) : (figs B f n)[j]? = some (n / B ^ (f - 1 - j) % B) := by
  induction f generalizing n j with
  | zero => omega
  | succ f ih =>
    rw [figs]
    by_cases hj : j < f
    · rw [List.getElem?_append_left (by rw [figs_length]; exact hj), ih (n / B) j hj, Nat.div_div_eq_div_mul]
      have e : f + 1 - 1 - j = (f - 1 - j) + 1 := by omega
      rw [e, Nat.pow_succ, Nat.mul_comm]
    · obtain rfl : j = f := by omega
      rw [List.getElem?_append_right (by rw [figs_length]; exact Nat.le_refl _), figs_length]
      simp
/-- The lits of n, filled up to f figures by zeros, are its f figures. -/
theorem lits_figs (B f n : Nat) (hB : 2 ≤ B) (h : n < B ^ f) : List.replicate (f - (lits B n).length) 0 ++ (lits B n).reverse.map Int.toNat = figs B f n ∧ (lits B n).length ≤ f := by
  induction f generalizing n with
  | zero =>
    have : n = 0 := by simpa using h
    subst this
    rw [lits_zero]; exact ⟨rfl, Nat.le_refl _⟩
  | succ f ih =>
    by_cases hn : n = 0
    · subst hn
      rw [lits_zero, figs_zero]; simp
    · have hd : n / B < B ^ f := by rw [Nat.div_lt_iff_lt_mul (by omega)]; rw [Nat.pow_succ] at h; exact h
      obtain ⟨h1, h2⟩ := ih (n / B) hd
      rw [lits_pos B n hB hn, figs, ← h1]
      refine ⟨?_, by simp; omega⟩
      rw [List.length_cons, show f + 1 - ((lits B (n / B)).length + 1) = f - (lits B (n / B)).length by omega]
      simp only [List.reverse_cons, List.map_append, List.map_cons, List.map_nil, Int.toNat_natCast, List.append_assoc]

theorem hex_l0 (f : Nat) (hf : f ≤ 1000) (d : Nat) : ∀ (k : Nat) (l : List UInt8), l.length + d = f ∨ (d = 0 ∧ f ≤ l.length) → d < k → l.length ≤ 1000 → Pr.spec_Hex.l0 k (f : Int) (bstr l) = some (bstr (List.replicate d 48 ++ l)) := by
  induction d with
  | zero =>
    intro k l hl hk hl2
    obtain ⟨k, rfl⟩ : ∃ m, k = m + 1 := ⟨k - 1, by omega⟩
    rw [Pr.spec_Hex.l0, if_neg (by rw [bstr_size]; omega)]
    rfl
  | succ d ih =>
    intro k l hl hk hl2
    obtain ⟨k, rfl⟩ : ∃ m, k = m + 1 := ⟨k - 1, by omega⟩
    rw [Pr.spec_Hex.l0, if_pos (by rw [bstr_size]; omega), if_pos (by rw [bstr_size]; omega)]
    have e : (⟨#[48]⟩ : ByteArray) ++ bstr l = bstr (48 :: l) := bstr_append [48] l
    rw [e, ih k (48 :: l) (by simp; omega) (by omega) (by simp; omega)]
    rw [List.replicate_succ', List.append_assoc]
    rfl
/-- spec.Hex: f figures of base 16. -/
theorem hex_f (n f : Nat) (hf : 1 ≤ f) (hf2 : f ≤ 8) (h : n < 16 ^ f) (k : Nat) (hk : 1000 < k) : Pr.spec_Hex.f k (n : Int) (f : Int) = some (bstr ((figs 16 f n).map (letter false))) := by
  have h8 : n < 16 ^ 8 := Nat.lt_of_lt_of_le h (Nat.pow_le_pow_right (by decide) hf2)
  have hn : n < 4294967296 := h8
  obtain ⟨hg, hlen⟩ := lits_figs 16 f n (by decide) h
  have hl : (lits 65536 n).length ≤ 2 := (lits_figs 65536 2 n (by decide) (by simpa using hn)).2
  unfold Pr.spec_Hex.f
  have hi := inBase_f false 16 n (by decide) (by decide) (by omega) (by omega) k (by omega)
  rw [show ((16 : Nat) : Int) = 16 from rfl] at hi
  rw [small_f n (by omega) k (by omega), Option.bind_some, hi, Option.bind_some]
  unfold txt
  by_cases h0 : n = 0
  · subst h0
    rw [if_pos rfl, hex_l0 f (by omega) (f - 1) k [48] (by left; simp; omega) (by omega) (by simp), figs_zero]
    obtain ⟨f, rfl⟩ : ∃ m, f = m + 1 := ⟨f - 1, by omega⟩
    rw [Nat.add_sub_cancel, List.replicate_succ' (n := f) (a := 0), List.map_append, List.map_replicate]
    rfl
  · rw [if_neg h0, hex_l0 f (by omega) (f - (lits 16 n).length) k _ (by left; simp; omega) (by omega) (by simp; omega), ← hg]
    simp only [List.map_append, List.map_replicate, List.map_map]
    rfl
end Go.Proofs.YtgpoplfgngiilaaGreatDoor
