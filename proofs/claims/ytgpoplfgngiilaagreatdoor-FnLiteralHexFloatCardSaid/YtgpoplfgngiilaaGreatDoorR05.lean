/- Blocks cut out of what the kit printed for this seat (M4 D1 E3 A2 A0 Sh). -/
import Derived.Test.YtgpoplfgngiilaaGreatDoorR04
import Derived.Test.YtgpoplfgngiilaaGreatDoorR03
import Derived.Test.YtgpoplfgngiilaaGreatDoorProg
import Derived.WalkSpells
import Derived.WalkLawsBesides
import Derived.Outline
import Derived.Shelf.Small.Utf8
import Derived.Shelf.Small.Bits
import Derived.Shelf.Strconv.Itoa0
import Derived.Shelf.LaysM
import Derived.Shelf.Strconv.Clone
import Derived.Shelf.Strconv.RangeError
import Derived.Shelf.LaysC
import Derived.Shelf.Strconv.ToErrorRange
import Derived.Shelf.Bits.Mul64
import Derived.Shelf.Unicode.DecodeSlow
import Derived.Shelf.Unicode.DecodeAny
set_option linter.unusedVariables false
set_option linter.unusedSimpArgs false
namespace Go.Proofs.YtgpoplfgngiilaaGreatDoor
open Go.RowKit Go.Proofs.YtgpoplfgngiilaaGreatDoorW.PrintWords Go.Proofs.YtgpoplfgngiilaaGreatDoorW.PrintMore

/-- The letter of a figure. -/
def letter (great : Bool) (d : Nat) : UInt8 := UInt8.ofNat (if d < 10 then 48 + d else if great then 55 + d else 87 + d)
/-- The bytes of a number in a base, the highest figure first. -/
def txt (great : Bool) (b n : Nat) : List UInt8 := if n = 0 then [48] else (lits b n).reverse.map (fun d => letter great d.toNat)
def bstr (l : List UInt8) : ByteArray := ⟨l.toArray⟩
theorem bstr_append (l m : List UInt8) : bstr l ++ bstr m = bstr (l ++ m) := by
  apply ByteArray.ext
  simp [bstr, ByteArray.data_append]
theorem bstr_size (l : List UInt8) : (bstr l).size = l.length := by simp [bstr, ByteArray.size]

def lettersOf (great : Bool) : ByteArray := if great then ⟨#[48, 49, 50, 51, 52, 53, 54, 55, 56, 57, 65, 66, 67, 68, 69, 70]⟩ else ⟨#[48, 49, 50, 51, 52, 53, 54, 55, 56, 57, 97, 98, 99, 100, 101, 102]⟩
theorem lettersOf_size (g : Bool) : (lettersOf g).size = 16 := by cases g <;> rfl
theorem letter_extract (g : Bool) (d : Nat) (h : d < 16) : (lettersOf g).extract d (d + 1) = bstr [letter g d] := by
  have : d = 0 ∨ d = 1 ∨ d = 2 ∨ d = 3 ∨ d = 4 ∨ d = 5 ∨ d = 6 ∨ d = 7 ∨ d = 8 ∨ d = 9 ∨ d = 10 ∨ d = 11 ∨ d = 12 ∨ d = 13 ∨ d = 14 ∨ d = 15 := by omega
  cases g <;> rcases this with rfl | rfl | rfl | rfl | rfl | rfl | rfl | rfl | rfl | rfl | rfl | rfl | rfl | rfl | rfl | rfl <;> rfl

theorem inBase_nums (d : Nat) (h : d < 16) : wrap64 ((d : Int) + 1) = ((d + 1 : Nat) : Int) := by unfold wrap64; omega

theorem lits_len_mono (B n m : Nat) (hB : 2 ≤ B) (h : m ≤ n) : (lits B m).length ≤ (lits B n).length := by
  induction n using Nat.strongRecOn generalizing m with
  | _ n ih =>
    by_cases hm : m = 0
    · subst hm; rw [lits_zero]; exact Nat.zero_le _
    · rw [lits_pos B m hB hm, lits_pos B n hB (by omega), List.length_cons, List.length_cons]
      have := ih (n / B) (Nat.div_lt_self (by omega) (by omega)) (m / B) (Nat.div_le_div_right h)
      omega

theorem lits_nil_iff (B n : Nat) (hB : 2 ≤ B) : (lits B n).length = 0 ↔ n = 0 := by
  constructor
  · intro h
    by_cases hn : n = 0
    · exact hn
    · rw [lits_pos B n hB hn] at h; simp at h
  · rintro rfl; rw [lits_zero]; rfl

theorem inBase_l0 (great : Bool) (b : Nat) (hb : 2 ≤ b) (hb2 : b ≤ 16) (M : Nat) (hM : M ≤ 1000000000) (n : Nat) : ∀ (k : Nat) (acc : List UInt8), (lits 65536 n).length ≤ M → (lits b n).length + acc.length ≤ 1000000000 → (lits b n).length + 2 * M + 3 < k →
    Pr.spec_InBase.l0 k (lits 65536 n) (b : Int) (lettersOf great) (bstr acc) = some (bstr ((lits b n).reverse.map (fun d => letter great d.toNat) ++ acc)) := by
  induction n using Nat.strongRecOn with
  | _ n ih =>
    intro k acc hl ha hk
    obtain ⟨k, rfl⟩ : ∃ m, k = m + 1 := ⟨k - 1, by omega⟩
    by_cases hn : n = 0
    · subst hn
      rw [Pr.spec_InBase.l0, lits_zero, lits_zero, if_neg (by simp)]
      simp
    · have hlen : (lits 65536 n).length ≠ 0 := fun h => hn ((lits_nil_iff 65536 n (by decide)).1 h)
      have hd : n % b < 16 := Nat.lt_of_lt_of_le (Nat.mod_lt _ (by omega)) hb2
      have hcons := lits_pos b n hb hn
      have hl2 : (lits b n).length = (lits b (n / b)).length + 1 := by rw [hcons]; rfl
      have hq : n / b < n := Nat.div_lt_self (by omega) (by omega)
      have hm := lits_len_mono 65536 n (n / b) (by decide) (Nat.le_of_lt hq)
      rw [Pr.spec_InBase.l0, if_pos (by omega), byDigit_f n b (by omega) (by omega) (by omega) k (by omega), Option.bind_some]
      simp only [inBase_nums _ hd]
      rw [if_pos (by omega), if_pos (by omega), if_pos (by rw [lettersOf_size]; omega), Int.toNat_natCast, Int.toNat_natCast, letter_extract great _ hd, bstr_append, if_pos (by simp only [bstr_size, List.length_cons, List.length_nil]; omega)]
      rw [ih (n / b) hq k _ (by omega) (by simp; omega) (by omega), hcons]
      simp only [List.reverse_cons, List.map_append, List.map_cons, List.map_nil, Int.toNat_natCast, List.append_assoc, List.cons_append, List.nil_append]
/-- spec.InBase. -/
theorem inBase_f (great : Bool) (b n : Nat) (hb : 2 ≤ b) (hb2 : b ≤ 16) (hl : (lits 65536 n).length ≤ 1000000000) (hl2 : (lits b n).length ≤ 1000000000) (k : Nat) (hk : (lits b n).length + 2 * (lits 65536 n).length + 5 < k) :
    Pr.spec_InBase.f k (lits 65536 n) (b : Int) great = some (bstr (txt great b n)) := by
  unfold Pr.spec_InBase.f txt
  by_cases hn : n = 0
  · subst hn
    rw [lits_zero]
    rfl
  · have hlen : (lits 65536 n).length ≠ 0 := fun h => hn ((lits_nil_iff 65536 n (by decide)).1 h)
    obtain ⟨k, rfl⟩ : ∃ m, k = m + 1 := ⟨k - 1, by omega⟩
    have h := inBase_l0 great b hb hb2 (lits 65536 n).length hl n k [] (Nat.le_refl _) (by simpa using hl2) (by omega)
    rw [if_neg (by omega), if_neg hn]
    rw [List.append_nil] at h
    cases great with
    | true => rw [if_pos rfl, Pr.spec_InBase.j0]; exact h
    | false => rw [if_neg (by decide), Pr.spec_InBase.j0]; exact h

/-- f figures of base B of n, the highest first. -/
def figs (B f n : Nat) : List Nat := match f with
  | 0 => []
  | f + 1 => figs B f (n / B) ++ [n % B]
theorem figs_zero (B f : Nat) : figs B f 0 = List.replicate f 0 := by
  induction f with
  | zero => rfl
  | succ f ih => rw [figs, Nat.zero_div, ih, Nat.zero_mod, List.replicate_succ']
/-- The lits of n, filled up to f figures by zeros, are its f figures. -/
theorem lits_figs (B f n : Nat) (hB : 2 ≤ B) (h : n < B ^ f) : List.replicate (f - (lits B n).length) 0 ++ (lits B n).reverse.map Int.toNat = figs B f n ∧ (lits B n).length ≤ f := by
  induction f generalizing n with
  | zero =>
    have : n = 0 := by simpa using h
    subst this
    rw [lits_zero]; exact ⟨rfl, Nat.le_refl _⟩
  | succ f ih =>
    by_cases hn : n = 0
    · subst hn
      rw [lits_zero, figs_zero]; simp
    · have hd : n / B < B ^ f := by rw [Nat.div_lt_iff_lt_mul (by omega)]; rw [Nat.pow_succ] at h; exact h
      obtain ⟨h1, h2⟩ := ih (n / B) hd
      rw [lits_pos B n hB hn, figs, ← h1]
      refine ⟨?_, by simp; omega⟩
      rw [List.length_cons, show f + 1 - ((lits B (n / B)).length + 1) = f - (lits B (n / B)).length by omega]
      simp only [List.reverse_cons, List.map_append, List.map_cons, List.map_nil, Int.toNat_natCast, List.append_assoc]

end Go.Proofs.YtgpoplfgngiilaaGreatDoor
namespace Go.Proofs.YtgpoplfgngiilaaGreatDoor
open Go.RowKit

/-- A figure's byte and its value. -/
def Cls (c d : Int) : Prop := (48 ≤ c ∧ c ≤ 57 ∧ d = c - 48) ∨ (97 ≤ c ∧ c ≤ 102 ∧ d = c - 87) ∨ (65 ≤ c ∧ c ≤ 70 ∧ d = c - 55)
def dval (c : UInt8) : Nat := if c.toNat ≤ 57 then c.toNat - 48 else if c.toNat ≤ 70 then c.toNat - 55 else c.toNat - 87
def stepV (b n : Nat) (c : UInt8) : Nat := if c = 95 then n else n * b + dval c
/-- The value of figures and underscores read on, from n. -/
def pv (b n : Nat) (cs : List UInt8) : Nat := cs.foldl (stepV b) n
/-- Figures of a base, and underscores. -/
def Body (b : Nat) (cs : List UInt8) : Prop := ∀ c ∈ cs, c = 95 ∨ (Cls c.toNat (dval c) ∧ dval c < b)

theorem pv_append (b n : Nat) (xs ys : List UInt8) : pv b n (xs ++ ys) = pv b (pv b n xs) ys := List.foldl_append ..
theorem pv_cons (b n : Nat) (c : UInt8) (ys : List UInt8) : pv b n (c :: ys) = pv b (stepV b n c) ys := rfl
theorem pv_le (b : Nat) (hb : 1 ≤ b) (cs : List UInt8) : ∀ n, n ≤ pv b n cs := by
  induction cs with
  | nil => intro n; exact Nat.le_refl _
  | cons c cs ih =>
    intro n
    refine Nat.le_trans ?_ (ih (stepV b n c))
    unfold stepV
    split
    · exact Nat.le_refl _
    · have := Nat.le_mul_of_pos_right n (Nat.lt_of_lt_of_le Nat.zero_lt_one hb)
      omega

theorem letter_toNat (g : Bool) (d : Nat) (h : d < 16) : (letter g d).toNat = if d < 10 then 48 + d else if g then 55 + d else 87 + d := by
  unfold letter
  rw [UInt8.toNat_ofNat']
  split
  · omega
  · split <;> omega
theorem letter_cls (g : Bool) (d : Nat) (h : d < 16) : Cls (letter g d).toNat d ∧ dval (letter g d) = d ∧ letter g d ≠ 95 := by
  have e := letter_toNat g d h
  refine ⟨?_, ?_, ?_⟩
  · unfold Cls
    rw [e]
    split
    · left; omega
    · split
      · right; right; omega
      · right; left; omega
  · unfold dval
    rw [e]
    split
    · split <;> omega
    · split
      · rw [if_neg (by omega)]; split <;> omega
      · rw [if_neg (by omega), if_neg (by omega)]; omega
  · intro h95
    rw [h95] at e
    have e2 : (95 : Nat) = if d < 10 then 48 + d else if g then 55 + d else 87 + d := e
    split at e2
    · omega
    · split at e2 <;> omega

theorem stepV_letter (b n : Nat) (g : Bool) (d : Nat) (h : d < 16) : stepV b n (letter g d) = n * b + d := by
  obtain ⟨_, h2, h3⟩ := letter_cls g d h
  unfold stepV
  rw [if_neg h3, h2]

theorem pv_digits (b : Nat) (hb : b ≤ 16) (g : Bool) : ∀ (xs : List Int), InR b xs → pv b 0 (xs.reverse.map (fun d => letter g d.toNat)) = valL b xs
  | [], _ => rfl
  | x :: xs, hR => by
    have hx := hR x (by simp)
    have ih := pv_digits b hb g xs (fun y hy => hR y (by simp [hy]))
    rw [List.reverse_cons, List.map_append, pv_append, ih]
    show stepV b (valL b xs) (letter g x.toNat) = valL b (x :: xs)
    rw [stepV_letter b _ g _ (by omega)]
    simp only [valL]
    rw [Nat.mul_comm, Nat.add_comm]

theorem pv_txt (g : Bool) (b n : Nat) (hb : 2 ≤ b) (hb2 : b ≤ 16) : pv b 0 (txt g b n) = n := by
  unfold txt
  split
  · rename_i h; subst h
    show stepV b 0 48 = 0
    unfold stepV
    rw [if_neg (by decide)]
    simp [dval]
  · rw [pv_digits b hb2 g _ (InR_lits b hb n), valL_lits b hb]

theorem Body_txt (g : Bool) (b n : Nat) (hb : 2 ≤ b) (hb2 : b ≤ 16) : Body b (txt g b n) ∧ ∀ c ∈ txt g b n, c ≠ 95 := by
  have key : ∀ c ∈ txt g b n, ∃ d, d < b ∧ c = letter g d := by
    intro c hc
    unfold txt at hc
    split at hc
    · simp only [List.mem_singleton] at hc
      exact ⟨0, by omega, by rw [hc]; cases g <;> rfl⟩
    · simp only [List.mem_map, List.mem_reverse] at hc
      obtain ⟨x, hx, rfl⟩ := hc
      have := InR_lits b hb n x hx
      exact ⟨x.toNat, by omega, rfl⟩
  refine ⟨fun c hc => ?_, fun c hc => ?_⟩
  · obtain ⟨d, hd, rfl⟩ := key c hc
    obtain ⟨h1, h2, h3⟩ := letter_cls g d (by omega)
    exact Or.inr ⟨by rw [h2]; exact h1, by rw [h2]; exact hd⟩
  · obtain ⟨d, hd, rfl⟩ := key c hc
    exact (letter_cls g d (by omega)).2.2
theorem txt_length (g : Bool) (b n : Nat) (hb : 2 ≤ b) : (txt g b n).length = max 1 (lits b n).length := by
  unfold txt
  split
  · rename_i h; subst h; rw [lits_zero]; rfl
  · rename_i h
    rw [lits_pos b n hb h]; simp
end Go.Proofs.YtgpoplfgngiilaaGreatDoor
namespace Go.Proofs.YtgpoplfgngiilaaGreatDoor.Pr
open Go.RowKit Go.Proofs.YtgpoplfgngiilaaGreatDoorW.PrintWords Go.Proofs.YtgpoplfgngiilaaGreatDoorW.PrintLast Go.Proofs.YtgpoplfgngiilaaGreatDoorW.PrintMore
attribute [local go_sem] max2_int min2_int max_two min_two max_three min_three max_four min_four
set_option linter.unusedVariables false
set_option linter.unusedSimpArgs false

def bigall_pow.l0 : Nat → Int → Int → Int → Option (Int)
  | 0, _, _, _ => none
  | k + 1, x0, x1, x4 => if x1 > 0 then (if (Go.bits .and .i64 x1 1) = 0 then (bigall_pow.l0 k (IntKind.u64.wrap (x0 * x0)) (x1 / 2) x4) else (bigall_pow.l0 k (IntKind.u64.wrap (x0 * x0)) (x1 / 2) (IntKind.u64.wrap (x4 * x0)))) else (some x4)
def bigall_pow.f (k : Nat) (a0 : Int) (a1 : Int) : Option (Int) := bigall_pow.l0 k a0 a1 1
set_option maxHeartbeats 8000000 in
set_option maxRecDepth 100000 in
theorem bigall_pow.calls (k : Nat) (a0 : Int) (a1 : Int) (r : Int) (w : World) (h : bigall_pow.f k a0 a1 = some r) :
    Calls Tryz.prog 151 #[.int .u64 a0, .int .i64 a1] w fun e w' => e = .returned (.int .u64 r) ∧ Drawn0 w w' := by
  have H : (bigall_pow.l0 k a0 a1 1) = some r := h
  clear h
  have H' := Aside0.mk H
  clear H
  go_enter Tryz.func151, Tryz.ntmps151
  go_wp2
  go_loopg [0, 1, 4] k (fun kq v0 v1 v4 w' => ∃ (x0_1 : Int) (x1_1 : Int) (x4_1 : Int), v0 = .int .u64 x0_1 ∧ v1 = .int .i64 x1_1 ∧ v4 = .int .u64 x4_1 ∧ Aside0 (bigall_pow.l0 kq x0_1 x1_1 x4_1 = some r) ∧ Aside0 (kq ≤ k) ∧ Drawn0 w w')
  case atStart => exact ⟨(a0), (a1), (1), (by first | rfl | (simp; done) | (simp [*]; done)), (by first | rfl | (simp; done) | (simp [*]; done)), (by first | rfl | (simp; done) | (simp [*]; done)), H', ⟨Nat.le_refl _⟩, by repeat (first | exact Drawn0.refl _ | apply Drawn0.step)⟩
  case round =>
    clear H'
    try clear c1
    try clear p2
    obtain ⟨x0_1, x1_1, x4_1, rfl, rfl, rfl, HA, HK1, ⟨m1, rfl⟩⟩ := hrel
    cases gk with
    | zero => exact absurd HA.out (by simp [bigall_pow.l0])
    | succ k1 =>
      have H := HA.out
      clear HA
      simp only [bigall_pow.l0] at H
      by_cases c3 : x1_1 > 0
      · rw [if_pos c3] at H
        have c3b0 : decide (0 < x1_1) = true := decide_eq_true c3
        clear c3
        by_cases c4 : (Go.bits .and .i64 x1_1 1) = 0
        · rw [if_pos c4] at H
          have c4b0 : ((Go.bits .and .i64 x1_1 1) == 0) = true := beq_iff_eq.mpr c4
          have c4b1 : ((Go.bits .and .i64 x1_1 1) != 0) = false := bne_eq_false_iff_eq.mpr c4
          clear c4
          have H' := Aside0.mk H
          clear H
          go_wp2
          go_roundg k1
          case measure => have := HK1.out; omega
          case rel => exact ⟨(IntKind.u64.wrap (x0_1 * x0_1)), (x1_1 / 2), (x4_1), (by first | rfl | (simp; done) | (simp [*]; done)), (by first | rfl | (simp; done) | (simp [*]; done)), (by first | rfl | (simp; done) | (simp [*]; done)), H', ⟨by have := HK1.out; omega⟩, by repeat (first | exact Drawn0.refl _ | apply Drawn0.step)⟩
        · rw [if_neg c4] at H
          have c4b0 : ((Go.bits .and .i64 x1_1 1) == 0) = false := beq_eq_false_iff_ne.mpr c4
          have c4b1 : ((Go.bits .and .i64 x1_1 1) != 0) = true := bne_iff_ne.mpr c4
          have H' := Aside0.mk H
          clear H
          go_wp2
          go_roundg k1
          case measure => have := HK1.out; omega
          case rel => exact ⟨(IntKind.u64.wrap (x0_1 * x0_1)), (x1_1 / 2), (IntKind.u64.wrap (x4_1 * x0_1)), (by first | rfl | (simp; done) | (simp [*]; done)), (by first | rfl | (simp; done) | (simp [*]; done)), (by first | rfl | (simp; done) | (simp [*]; done)), H', ⟨by have := HK1.out; omega⟩, by repeat (first | exact Drawn0.refl _ | apply Drawn0.step)⟩
      · rw [if_neg c3] at H
        have c3b0 : decide (0 < x1_1) = false := decide_eq_false c3
        clear c3
        obtain rfl := Option.some.inj H
        go_wp2
        go_ret
        exact ⟨by first | rfl | (simp; done) | (simp [*]; done), by repeat (first | exact Drawn0.refl _ | apply Drawn0.step)⟩

def bigall_Word_152.T3 : Bool × List (List Nat × List Nat) := (true, [([], []), ([], []), ([], []), ([], []), ([], []), ([], []), ([4, 5], [4, 5]), ([6], [6]), ([], []), ([], []), ([8, 9], [8, 9]), ([10], [10]), ([0, 1, 0, 1, 4, 5, 6, 7, 11], [0, 1]), ([12, 7, 0, 1, 4, 5, 6, 7, 11], [7, 12]), ([2, 3, 0, 1, 2, 3, 4, 5, 6, 7, 8, 9, 10, 11, 12, 13], [2, 3]), ([14, 11, 13, 0, 1, 2, 3, 4, 5, 6, 7, 8, 9, 10, 11, 12, 13], [11, 14])])
def bigall_Word_152.B3 : List Nat := [0, 0, 0, 0, 0, 0, 48, 112, 0, 0, 768, 1792, 4083, 8179, 16383, 32767]
/-- A state of type 189 at block g of W; what its slices lead to came in by w0. -/
def IsS189 (w0 W : World) (g : Nat) (f0 : ByteArray) (f1 : Int) (f2 : Int) : Prop := W.heap[g]? = some (.cells #[.string f0, .int .i64 f1, .int .i64 f2] 189 (0, 0)) ∧ w0.heap.size ≤ g
theorem IsS189.grown {w0 W : World} {g : Nat} {f0 : ByteArray} {f1 : Int} {f2 : Int} {W1 : World} {row : Option Nat} (h : IsS189 w0 W g f0 f1 f2) (hw : W.grownBy W1 row) (hne : some g ≠ row) : IsS189 w0 W1 g f0 f1 f2 := by
  obtain ⟨hb, hg⟩ := h
  exact ⟨blk_grown hb hw hne, hg⟩
theorem IsS189.kept {w0 W : World} {g : Nat} {f0 : ByteArray} {f1 : Int} {f2 : Int} {W1 : World} {S : Nat → Prop} (h : IsS189 w0 W g f0 f1 f2) (hk : Kept W W1 S) (hne : ¬ S g) : IsS189 w0 W1 g f0 f1 f2 := by
  obtain ⟨hb, hg⟩ := h
  exact ⟨blk_kept hb hk hne, hg⟩
theorem IsS189.below {w0 W : World} {g : Nat} {f0 : ByteArray} {f1 : Int} {f2 : Int} {W1 : World} (h : IsS189 w0 W g f0 f1 f2) (hw : Below W.heap.size W W1) : IsS189 w0 W1 g f0 f1 f2 := h.grown (grown_of_below hw none) (by simp)
theorem IsS189.alloc {w0 W : World} {g : Nat} {f0 : ByteArray} {f1 : Int} {f2 : Int} (h : IsS189 w0 W g f0 f1 f2) (o : Obj) : IsS189 w0 (W.alloc o) g f0 f1 f2 := h.below (below_alloc (Below.refl _ _) o)
theorem IsS189.drewN {w0 W : World} {g : Nat} {f0 : ByteArray} {f1 : Int} {f2 : Int} (h : IsS189 w0 W g f0 f1 f2) (m : Nat) : IsS189 w0 (W.drewN m) g f0 f1 f2 := h
theorem IsS189.drew {w0 W : World} {g : Nat} {f0 : ByteArray} {f1 : Int} {f2 : Int} (h : IsS189 w0 W g f0 f1 f2) : IsS189 w0 W.drew g f0 f1 f2 := h
theorem IsS189.at_ {w0 W : World} {g : Nat} {f0 : ByteArray} {f1 : Int} {f2 : Int} {w' : World} {m : Nat} (hq : W.drewN m = w') (h : IsS189 w0 W g f0 f1 f2) : IsS189 w0 w' g f0 f1 f2 := by subst hq; exact IsS189.drewN h m
theorem IsS189.apart {w0 W : World} {g : Nat} {f0 : ByteArray} {f1 : Int} {f2 : Int} {α : Type} {d : Kd α} {e : Nat} {base : Nat} {ok : Nat → Prop} {v : Value} {xs : List α} (h : IsS189 w0 W g f0 f1 f2) (ho : d.R e W base ok v xs) (ht : ∀ q, q ∈ e :: d.E → q ≠ 189) : d.R e W base (fun k => ok k ∧ k ≠ g) v xs := by
  obtain ⟨hb, hg⟩ := h
  exact Kd.R_types ho hb ht
theorem IsS189.own_ne {w0 W : World} {g : Nat} {f0 : ByteArray} {f1 : Int} {f2 : Int} {α : Type} {d : Kd α} {e : Nat} {base : Nat} {ok : Nat → Prop} {v : Value} {xs : List α} (h : IsS189 w0 W g f0 f1 f2) (ho : d.R e W base ok v xs) (ht : e ≠ 189) : some g ≠ v.ownBlock := by
  obtain ⟨hb, hg⟩ := h
  exact Kd.R_ne ho hb ht
theorem IsS189.lt {w0 W : World} {g : Nat} {f0 : ByteArray} {f1 : Int} {f2 : Int} (h : IsS189 w0 W g f0 f1 f2) : g < W.heap.size := by
  obtain ⟨hb, hg⟩ := h
  exact blk_lt hb
theorem IsS189.far {w0 W : World} {g : Nat} {f0 : ByteArray} {f1 : Int} {f2 : Int} {p : Addr} (h : IsS189 w0 W g f0 f1 f2) (hne : g ≠ p.block) (u : Value) : IsS189 w0 (W.setCell p u) g f0 f1 f2 := by
  obtain ⟨hb, hg⟩ := h
  exact ⟨blk_far hb hne u, hg⟩
end Go.Proofs.YtgpoplfgngiilaaGreatDoor.Pr
namespace Go.Proofs.YtgpoplfgngiilaaGreatDoor
open Go.RowKit Go.Proofs.YtgpoplfgngiilaaGreatDoorW.PrintWords Go.Proofs.YtgpoplfgngiilaaGreatDoorW.PrintLast Go.Proofs.YtgpoplfgngiilaaGreatDoorW.PrintMore

theorem ta_i_108 (v : Value) (w : World) : (Instr.typeAssert (.iface 88 v) 67 108 true).run Tryz.prog w = .ok (.tuple #[.bool false, .bool false]) w := by kernel_rfl
theorem ta_i_109 (v : Value) (w : World) : (Instr.typeAssert (.iface 88 v) 67 109 true).run Tryz.prog w = .ok (.tuple #[.pointer none, .bool false]) w := by kernel_rfl
theorem ta_i_88 (v : Value) (w : World) : (Instr.typeAssert (.iface 88 v) 67 88 true).run Tryz.prog w = .ok (.tuple #[v, .bool true]) w := by kernel_rfl
theorem ta_n_2 (v : Value) (w : World) : (Instr.typeAssert (.iface 2 v) 20 2 true).run Tryz.prog w = .ok (.tuple #[v, .bool true]) w := by kernel_rfl
theorem mk_nat_1 (w : World) : (Instr.makeSlice 114 (.int .i64 1) (.int .i64 1)).run Tryz.prog w = .ok (.slice (some ⟨w.heap.size, 0, none⟩) 1 1) (w.alloc (.cells #[.int .u64 0] 167)) := by kernel_rfl
attribute [local go_sem] ta_i_108 ta_i_109 ta_i_88 ta_n_2 mk_nat_1

theorem take_rd (ws : List Int) (i : Nat) (h : i < ws.length) : ws.take (i + 1) = ws.take i ++ [rd ws (i : Int)] := by
  rw [List.take_succ_eq_append_getElem h]
  simp [rd, List.getD, h]

set_option maxHeartbeats 1000000 in
set_option maxRecDepth 100000 in
/-- impl.plain: the words of an Int, in a new row. -/
theorem plain_calls (g : Nat) (A : Option Addr) (c : Nat) (ws : List Int) (w : World) (hl : ws.length < 17592186044416)
    (hc1 : w.cell? ⟨g, 1, none⟩ = some (.slice A ws.length c)) (hr : Kd.C (Kd.int .u64) w A ws.length ws) :
    Calls Tryz.prog 61 #[.pointer (some ⟨g, 0, none⟩)] w fun e w' => ∃ v, e = .returned v ∧ Kd.R (Kd.int .u64) 50 w' w.heap.size (fun _ => True) v ws ∧ Below w.heap.size w w' := by
  have HR := Aside0.mk hr
  clear hr
  go_enter Tryz.func61, Tryz.ntmps61
  go_wp2
  go_loopg [3, 9] ws.length (fun kq v3 v9 w' => ∃ i : Nat, v9 = .int .i64 i ∧ Aside0 (i ≤ ws.length ∧ kq = ws.length - i) ∧ Aside0 (Kd.R (Kd.int .u64) 50 w' w.heap.size (fun _ => True) v3 (ws.take i)) ∧ Aside0 (Below w.heap.size w w'))
  case atStart => exact ⟨0, rfl, ⟨Nat.zero_le _, rfl⟩, ⟨Kd.R_nil _ _ _ _ _⟩, ⟨Below.refl _ _⟩⟩
  case round =>
    obtain ⟨i, rfl, HI, HO, HB⟩ := hrel
    by_cases hlt : i < ws.length
    · have hb : decide ((i : Int) < (ws.length : Int)) = true := by simp; exact hlt
      obtain ⟨ad, rfl, hcell⟩ := Kd.at_int HR.out (i : Int) (by omega) (by omega)
      have hcell' : wr.cell? (ad.add i) = some (.int .u64 (rd ws (i : Int))) := by
        rw [Int.toNat_natCast] at hcell
        rw [← hcell]; exact HB.out.cell (World.block_lt_of_cell? w _ hcell)
      clear hcell
      have HT := Aside0.mk (take_rd ws i hlt)
      go_wp2_with (first | ((with_reducible refine gate_builtin (b := .append) (xs := #[.tmp 13, .tmp 15]) rfl ?_); at_builtin; refine Kd.R_append (Kd.int .u64) (w0 := w) w.heap.size rfl (.tmp 13) (.tmp 15) 22 50 (.int .u64 0) 8 rfl Tryz.underlying22 Pr.info50 rfl (by decide) (by omega) u3 (ws.take i) (rd ws (i : Int)) [.int .u64 (rd ws (i : Int))] (fun _ => True) (fun _ => False) rfl rfl ?aP (fun _ hk => hk.elim) ?aF ?aO ?aB ?aS ?aL ?_; (case aP => exact rfl); (case aB => exact (by repeat (first | (with_reducible first | exact HB.out | apply below_alloc | apply pw_below_drewN | apply below_drew1) | exact HB.out))); (case aF => exact (fun _ _ => trivial)); (case aO => exact (by (with_reducible repeat (first | apply Kd.R_alloc | apply Kd.R_drewN | apply Kd.R_drew)); exact HO.out)); (case aS => exact (below_size (by repeat (first | (with_reducible first | exact HB.out | apply below_alloc | apply pw_below_drewN | apply below_drew1) | exact HB.out)))); (case aL => have := List.length_take_le i ws; omega); intro v316 w6 ho hb hg hat; rw [← HT.out] at ho; have n0_ := Aside0.mk (hb); have n1_ := Aside0.mk (ho); clear HB; clear HO; have HB := n0_; have HO := n1_; clear n0_ n1_; clear ho hb hg hat))
      go_roundg (gk - 1)
      case measure => have := HI.out; omega
      case rel => exact ⟨i + 1, by go_num, ⟨by have := HI.out; omega⟩, ⟨by (with_reducible repeat (first | apply Kd.R_alloc | apply Kd.R_drewN | apply Kd.R_drew)); exact HO.out⟩, ⟨by repeat (first | (with_reducible first | exact HB.out | apply below_alloc | apply pw_below_drewN | apply below_drew1) | exact HB.out)⟩⟩
    · have hb : decide ((i : Int) < (ws.length : Int)) = false := by simp; omega
      obtain rfl : i = ws.length := by have := HI.out; omega
      rw [List.take_length] at HO
      clear hlt
      go_wp2
      go_ret
      exact ⟨_, rfl, HO.out, HB.out⟩

/-- Old cells and marks read as before. -/
theorem bcell {B : Nat} {W w1 : World} (hb : Below B W w1) : (∀ b o, b < B → w1.cell? ⟨b, o, none⟩ = W.cell? ⟨b, o, none⟩) ∧ (∀ b o, b < B → w1.frozen? ⟨b, o, none⟩ = W.frozen? ⟨b, o, none⟩) :=
  ⟨fun b o h => hb.cell (p := ⟨b, o, none⟩) h, fun b o h => hb.frozen (p := ⟨b, o, none⟩) h⟩
theorem hk_alloc {W : World} {k : Nat} {X : Option Obj} (o : Obj) (hk : k < W.heap.size) (h : W.heap[k]? = X) : (W.alloc o).heap[k]? = X := (Below.heap_alloc W o k hk).trans h
theorem hk_set {W : World} {k : Nat} {X : Option Obj} {a : Addr} {u : Value} (hk : k ≠ a.block) (h : W.heap[k]? = X) : (W.setCell a u).heap[k]? = X := (Below.heap_setCell W a u k hk).trans h
/-- A row that was made from base on reads the same in a later world in which the blocks from N on have stayed. -/
theorem R_after {α : Type} {d : Kd α} {e base b' N : Nat} {ok : Nat → Prop} {w1 W2 : World} {v : Value} {xs : List α} (h : d.R e w1 base ok v xs) (hN : N ≤ base) (hb : b' ≤ base)
    (hk : ∀ k, N ≤ k → k < w1.heap.size → W2.heap[k]? = w1.heap[k]?) : d.R e W2 b' (fun _ => True) v xs :=
  Kd.R_mono (Kd.R_lower (Kd.R_step (Kd.R_bound h) (fun k ho hlt => hk k (by have := ho.2.1; omega) hlt)) hb) (fun _ _ => trivial)

set_option maxHeartbeats 1000000 in
set_option maxRecDepth 100000 in
/-- impl.number of an Int that is not below 0. -/
theorem number_calls (g : Nat) (A : Option Addr) (c : Nat) (ws : List Int) (w : World) (hl : ws.length < 17592186044416)
    (hc0 : w.cell? ⟨g, 0, none⟩ = some (.bool false)) (hc1 : w.cell? ⟨g, 1, none⟩ = some (.slice A ws.length c)) (hr : Kd.C (Kd.int .u64) w A ws.length ws) :
    Calls Tryz.prog 58 #[.pointer (some ⟨g, 0, none⟩)] w fun e w' => ∃ v, e = .returned (.agg #[.bool false, v]) ∧ Kd.R (Kd.int .u64) 50 w' w.heap.size (fun _ => True) v ws ∧ Below w.heap.size w w' := by
  have HR := Aside0.mk hr
  clear hr
  have hg : g < w.heap.size := World.block_lt_of_cell? w _ hc0
  have HL := Aside0.mk hl
  clear hl
  have HB0 := Aside0.mk ((Below.refl w.heap.size w).alloc (Nat.le_refl _) (Obj.cells #[Value.bool false, Value.slice none 0 0] 24))
  have HC1 := Aside0.mk ((HB0.out.cell (p := ⟨g, 1, none⟩) hg).trans hc1)
  go_enter Tryz.func58, Tryz.ntmps58
  go_wp2_with (first | (go_at_call 61; (refine (plain_calls g A c ws _ HL.out HC1.out (Kd.C_below HR.out HB0.out)).mono ?_); rintro e w1 ⟨v, rfl, hR, hB⟩; have hR' := Aside0.mk hR; have hB' := Aside0.mk hB; have hs := hB.size; simp only [World.size_alloc] at hs; obtain ⟨q1, q2⟩ := bcell hB; have e0 := q1 w.heap.size 0 (by simp); have e1 := q1 w.heap.size 1 (by simp); have f0 := q2 w.heap.size 0 (by simp); have f1 := q2 w.heap.size 1 (by simp); clear q1 q2 hR hB; obtain ⟨Av, cv, rfl, -⟩ := Kd.R_reads hR'.out) | go_in)
  all_goals
    refine bodyPost_ret (v := .agg #[.bool false, .slice Av ws.length cv]) (by simp [results, Tryz.results58, go_sem, e0, e1]) rfl ⟨_, rfl, ?_, ?_⟩
    · exact R_after (N := w.heap.size + 1) hR'.out (by simp) (by simp) (fun k h1 h2 => hk_set (by simp; omega) (hk_set (by simp; omega) rfl))
    · exact ((HB0.out.trans (hB'.out.mono (by simp))).setCell (Nat.le_refl _) _).setCell (Nat.le_refl _) _

theorem C_nil {k : IntKind} {w : World} (A : Option Addr) : Kd.C (Kd.int k) w A 0 [] := ⟨rfl, by decide, fun h => absurd h (by decide)⟩
end Go.Proofs.YtgpoplfgngiilaaGreatDoor
namespace Go.Proofs.YtgpoplfgngiilaaGreatDoor
open Go.RowKit Go.Proofs.YtgpoplfgngiilaaGreatDoorW.PrintWords Go.Proofs.YtgpoplfgngiilaaGreatDoorW.PrintLast Go.Proofs.YtgpoplfgngiilaaGreatDoorW.PrintMore

/-- w' is w with new blocks, and perhaps other cells in the blocks of S. -/
structure Fr (S : Nat → Prop) (w w' : World) : Prop where
  os : w'.os = w.os
  tape : w'.tape = w.tape
  output : w'.output = w.output
  size : w.heap.size ≤ w'.heap.size
  block : ∀ k, k < w.heap.size → ¬ S k → w'.heap[k]? = w.heap[k]?

namespace Fr
variable {S S' : Nat → Prop} {w w' w2 : World}
theorem refl (S : Nat → Prop) (w : World) : Fr S w w := ⟨rfl, rfl, rfl, Nat.le_refl _, fun _ _ _ => rfl⟩
theorem mono (h : Fr S w w') (hs : ∀ k, S k → S' k) : Fr S' w w' := ⟨h.os, h.tape, h.output, h.size, fun k hk hn => h.block k hk (fun h' => hn (hs k h'))⟩
theorem trans (h : Fr S w w') (h2 : Fr S w' w2) : Fr S w w2 :=
  ⟨h2.os.trans h.os, h2.tape.trans h.tape, h2.output.trans h.output, Nat.le_trans h.size h2.size, fun k hk hn => (h2.block k (Nat.lt_of_lt_of_le hk h.size) hn).trans (h.block k hk hn)⟩
theorem of_below (h : Below w.heap.size w w') : Fr S w w' := ⟨h.os, h.tape, h.output, h.size, fun k hk _ => h.block k hk⟩
theorem below (h : Fr S w w') (hb : Below w'.heap.size w' w2) : Fr S w w2 := h.trans (of_below hb)
theorem drew (h : Fr S w w') : Fr S w w'.drew := ⟨h.os, h.tape, h.output, h.size, h.block⟩
theorem alloc (h : Fr S w w') (o : Obj) : Fr S w (w'.alloc o) := h.below ((Below.refl _ _).alloc (Nat.le_refl _) o)
theorem setCell (h : Fr S w w') {p : Addr} (hp : S p.block ∨ w.heap.size ≤ p.block) (u : Value) : Fr S w (w'.setCell p u) :=
  ⟨h.os, h.tape, h.output, by simpa [World.setCell] using h.size, fun k hk hn => (Below.heap_setCell w' p u k (fun e => by
    subst e
    rcases hp with hp | hp
    · exact hn hp
    · omega)).trans (h.block k hk hn)⟩
theorem call (h : Fr S w w') (h2 : Fr S' w' w2) (hs : ∀ k, S' k → S k ∨ w.heap.size ≤ k) : Fr S w w2 :=
  ⟨h2.os.trans h.os, h2.tape.trans h.tape, h2.output.trans h.output, Nat.le_trans h.size h2.size, fun k hk hn => (h2.block k (Nat.lt_of_lt_of_le hk h.size) (fun h' => (hs k h').elim hn (fun h3 => by omega))).trans (h.block k hk hn)⟩
theorem cell (h : Fr S w w') {p : Addr} (hp : p.block < w.heap.size) (hn : ¬ S p.block) : w'.cell? p = w.cell? p := World.cell?_of_block (h.block _ hp hn)
theorem frozen (h : Fr S w w') {p : Addr} (hp : p.block < w.heap.size) (hn : ¬ S p.block) : w'.frozen? p = w.frozen? p := World.frozen?_of_block (h.block _ hp hn)
theorem toBelow {B : Nat} (h : Fr S w w') (hB : B ≤ w.heap.size) (hs : ∀ k, S k → B ≤ k) : Below B w w' :=
  ⟨h.os, h.tape, h.output, h.size, fun k hk => h.block k (by omega) (fun h' => by have := hs k h'; omega)⟩
theorem cellv (h : Fr S w w') {p : Addr} {v : Value} (hc : w.cell? p = some v) (hn : ¬ S p.block) : w'.cell? p = some v := (h.cell (World.block_lt_of_cell? w p hc) hn).trans hc
end Fr

/-- A block's cells, read one by one. -/
theorem blk_cell {w : World} {g : Nat} {cs : Array Value} {t : TypeId} (h : w.heap[g]? = some (.cells cs t (0, 0))) (i : Nat) : w.cell? ⟨g, i, none⟩ = cs[i]? := cell_of_row w g i cs t (0, 0) h
theorem blk_lt {w : World} {g : Nat} {o : Obj} (h : w.heap[g]? = some o) : g < w.heap.size := (Array.getElem?_eq_some_iff.1 h).1

end Go.Proofs.YtgpoplfgngiilaaGreatDoor
namespace Go.Proofs
open Go.Shelf
def Tryz.lays134_ren : Go.Shelf.Ren := ⟨fun | 134 => 284 | 129 => 277 | n => n, fun | 53 => 47 | 3 => 3 | 4 => 4 | 46 => 50 | 5 => 5 | 9 => 9 | n => n, fun | n => n⟩
theorem Tryz.lays134 : Go.Proofs.Lays.n134 Tryz.prog Tryz.lays134_ren := {
  mixed := by kernel_rfl
  f129 := Tryz.func277.trans (congrArg some (by kernel_rfl))
  f134 := Tryz.func284.trans (congrArg some (by kernel_rfl))
  t3 := Tryz.underlying3
  a3 := Tryz.isAgg3
  z3 := Tryz.sizeOf3
  v3 := Tryz.zeroValue3
  t4 := Tryz.underlying4
  a4 := Tryz.isAgg4
  z4 := Tryz.sizeOf4
  v4 := Tryz.zeroValue4
  t5 := Tryz.underlying5
  a5 := Tryz.isAgg5
  z5 := Tryz.sizeOf5
  v5 := Tryz.zeroValue5
  t9 := Tryz.underlying9
  a9 := Tryz.isAgg9
  z9 := Tryz.sizeOf9
  v9 := Tryz.zeroValue9
  t46 := Tryz.underlying50
  a46 := Tryz.isAgg50
  z46 := Tryz.sizeOf50
  v46 := Tryz.zeroValue50
  t53 := Tryz.underlying47
  a53 := Tryz.isAgg47
  z53 := Tryz.sizeOf47
  v53 := Tryz.zeroValue47 }
/-- bits.LeadingZeros64: "LeadingZeros64 returns the number of leading zero bits in x; the result is 64 for x == 0.": IT RETURNS '64 - Lib.bitLen x'; the world is as it was. ITS CALLEE bits.Len64 IS MET BY ITS OWN CONTRACT OFF THE SHELF (lay that first): entered in place it sends the kernel out of memory. (LAID: no walk: one application.) -/
theorem Tryz.bits_LeadingZeros64 (x : Int) (w : World) (h0 : 0 ≤ x) (h1 : x ≤ 18446744073709551615) :
    Calls Tryz.prog 284 #[.int .u64 x] w fun e w' => e = .returned (.int .i64 (64 - (Lib.bitLen x.toNat : Int))) ∧ w' = w := Any.bits_LeadingZeros64 Tryz.lays134 x w h0 h1
def Tryz.lays130_ren : Go.Shelf.Ren := ⟨fun | 130 => 215 | 125 => 252 | 128 => 276 | 129 => 277 | n => n, fun | 46 => 50 | 3 => 3 | 51 => 41 | 53 => 47 | 4 => 4 | 5 => 5 | 9 => 9 | n => n, fun | n => n⟩
theorem Tryz.lays130 : Go.Proofs.Lays.n130 Tryz.prog Tryz.lays130_ren := {
  mixed := by kernel_rfl
  f125 := Tryz.func252.trans (congrArg some (by kernel_rfl))
  f128 := Tryz.func276.trans (congrArg some (by kernel_rfl))
  f129 := Tryz.func277.trans (congrArg some (by kernel_rfl))
  f130 := Tryz.func215.trans (congrArg some (by kernel_rfl))
  t3 := Tryz.underlying3
  a3 := Tryz.isAgg3
  z3 := Tryz.sizeOf3
  v3 := Tryz.zeroValue3
  t4 := Tryz.underlying4
  a4 := Tryz.isAgg4
  z4 := Tryz.sizeOf4
  v4 := Tryz.zeroValue4
  t5 := Tryz.underlying5
  a5 := Tryz.isAgg5
  z5 := Tryz.sizeOf5
  v5 := Tryz.zeroValue5
  t9 := Tryz.underlying9
  a9 := Tryz.isAgg9
  z9 := Tryz.sizeOf9
  v9 := Tryz.zeroValue9
  t46 := Tryz.underlying50
  a46 := Tryz.isAgg50
  z46 := Tryz.sizeOf50
  v46 := Tryz.zeroValue50
  t51 := Tryz.underlying41
  a51 := Tryz.isAgg41
  z51 := Tryz.sizeOf41
  v51 := Tryz.zeroValue41
  t53 := Tryz.underlying47
  a53 := Tryz.isAgg47
  z53 := Tryz.sizeOf47
  v53 := Tryz.zeroValue47 }
/-- bits.LeadingZeros: "LeadingZeros returns the number of leading zero bits in x; the result is [UintSize] for x == 0.": IT RETURNS '64 - Lib.bitLen x'; the world is as it was. ITS CALLEE bits.Len IS MET BY ITS OWN CONTRACT OFF THE SHELF (lay that first): entered in place it sends the kernel out of memory. (LAID: no walk: one application.) -/
theorem Tryz.bits_LeadingZeros (x : Int) (w : World) (h0 : 0 ≤ x) (h1 : x ≤ 18446744073709551615) :
    Calls Tryz.prog 215 #[.int .u64 x] w fun e w' => e = .returned (.int .i64 (64 - (Lib.bitLen x.toNat : Int))) ∧ w' = w := Any.bits_LeadingZeros Tryz.lays130 x w h0 h1
def Tryz.lays212_ren : Go.Shelf.Ren := ⟨fun | 212 => 253 | 263 => 278 | 264 => 279 | n => n, fun | 46 => 50 | 51 => 41 | 146 => 333 | 53 => 47 | 148 => 335 | n => n, fun | n => n⟩
theorem Tryz.lays212 : Go.Proofs.Lays.n212 Tryz.prog Tryz.lays212_ren := {
  mixed := by kernel_rfl
  f212 := Tryz.func253.trans (congrArg some (by kernel_rfl))
  f263 := Tryz.func278.trans (congrArg some (by kernel_rfl))
  f264 := Tryz.func279.trans (congrArg some (by kernel_rfl))
  t46 := Tryz.underlying50
  a46 := Tryz.isAgg50
  z46 := Tryz.sizeOf50
  v46 := Tryz.zeroValue50
  t51 := Tryz.underlying41
  a51 := Tryz.isAgg41
  z51 := Tryz.sizeOf41
  v51 := Tryz.zeroValue41
  t53 := Tryz.underlying47
  a53 := Tryz.isAgg47
  z53 := Tryz.sizeOf47
  v53 := Tryz.zeroValue47
  t146 := Tryz.underlying333
  a146 := Tryz.isAgg333
  z146 := Tryz.sizeOf333
  v146 := Tryz.zeroValue333
  t148 := Tryz.underlying335
  a148 := Tryz.isAgg335
  z148 := Tryz.sizeOf335
  v148 := Tryz.zeroValue335 }
open Go.RowKit Go.Lib in
/-- math/bits.Mul: "Mul returns the full-width product of x and y": on a machine of 64 bits: Mul64's. (LAID: no walk: one application.) -/
theorem Tryz.bits_Mul (x y : Nat) (hx : x < 18446744073709551616) (hy : y < 18446744073709551616) (w : World) :
    Calls Tryz.prog 253 #[.int .u64 x, .int .u64 y] w fun e w' => e = .returned (.tuple #[.int .u64 ((x * y / 18446744073709551616 : Nat) : Int), .int .u64 ((x * y % 18446744073709551616 : Nat) : Int)]) ∧ w' = w := Any.bits_Mul Tryz.lays212 x y hx hy w
end Go.Proofs
