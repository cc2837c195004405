/- Figures and their values: what a reader of figures in a base adds up of the text that spec.InBase writes, with an underscore behind the first figure or none. -/
import Derived.Test.YtgpoplfgngiilaaGreatDoorQM
import Derived.Test.YtgpoplfgngiilaaGreatDoorP2
import Derived.Test.YtgpoplfgngiilaaGreatDoorQA
import Derived.Lib.ConvBytes
import Derived.Lib.Strings
import Derived.WalkSpells
import Derived.WalkLawsBesides
import Derived.BigCall
import Derived.BigGuard
set_option linter.unusedVariables false
set_option linter.unusedSimpArgs false
namespace Go.Proofs.YtgpoplfgngiilaaGreatDoor
open Go.RowKit

/-- A figure's byte and its value. -/
def Cls (c d : Int) : Prop := (48 ≤ c ∧ c ≤ 57 ∧ d = c - 48) ∨ (97 ≤ c ∧ c ≤ 102 ∧ d = c - 87) ∨ (65 ≤ c ∧ c ≤ 70 ∧ d = c - 55)
def dval (c : UInt8) : Nat := if c.toNat ≤ 57 then c.toNat - 48 else if c.toNat ≤ 70 then c.toNat - 55 else c.toNat - 87
def stepV (b n : Nat) (c : UInt8) : Nat := if c = 95 then n else n * b + dval c
/-- The value of figures and underscores read on, from n. -/
def pv (b n : Nat) (cs : List UInt8) : Nat := cs.foldl (stepV b) n
/-- Figures of a base, and underscores. -/
def Body (b : Nat) (cs : List UInt8) : Prop := ∀ c ∈ cs, c = 95 ∨ (Cls c.toNat (dval c) ∧ dval c < b)

theorem pv_append (b n : Nat) (xs ys : List UInt8) : pv b n (xs ++ ys) = pv b (pv b n xs) ys := List.foldl_append ..
theorem pv_cons (b n : Nat) (c : UInt8) (ys : List UInt8) : pv b n (c :: ys) = pv b (stepV b n c) ys := rfl
theorem pv_le (b : Nat) (hb : 1 ≤ b) (cs : List UInt8) : ∀ n, n ≤ pv b n cs := by
  induction cs with
  | nil => intro n; exact Nat.le_refl _
  | cons c cs ih =>
    intro n
    refine Nat.le_trans ?_ (ih (stepV b n c))
    unfold stepV
    split
    · exact Nat.le_refl _
    · have := Nat.le_mul_of_pos_right n (Nat.lt_of_lt_of_le Nat.zero_lt_one hb)
      omega

theorem letter_toNat (g : Bool) (d : Nat) (h : d < 16) : (letter g d).toNat = if d < 10 then 48 + d else if g then 55 + d else 87 + d := by
  unfold letter
  rw [UInt8.toNat_ofNat']
  split
  · omega
  · split <;> omega
theorem letter_cls (g : Bool) (d : Nat) (h : d < 16) : Cls (letter g d).toNat d ∧ dval (letter g d) = d ∧ letter g d ≠ 95 := by
  have e := letter_toNat g d h
  refine ⟨?_, ?_, ?_⟩
  · unfold Cls
    rw [e]
    split
    · left; omega
    · split
      · right; right; omega
      · right; left; omega
  · unfold dval
    rw [e]
    split
    · split <;> omega
    · split
      · rw [if_neg (by omega)]; split <;> omega
      · rw [if_neg (by omega), if_neg (by omega)]; omega
  · intro h95
    rw [h95] at e
    have e2 : (95 : Nat) = if d < 10 then 48 + d else if g then 55 + d else 87 + d := e
    split at e2
    · omega
    · split at e2 <;> omega

theorem stepV_letter (b n : Nat) (g : Bool) (d : Nat) (h : d < 16) : stepV b n (letter g d) = n * b + d := by
  obtain ⟨_, h2, h3⟩ := letter_cls g d h
  unfold stepV
  rw [if_neg h3, h2]

theorem pv_digits (b : Nat) (hb : b ≤ 16) (g : Bool) : ∀ (xs : List Int), InR b xs → pv b 0 (xs.reverse.map (fun d => letter g d.toNat)) = valL b xs
  | [], _ => rfl
  | x :: xs, hR => by
    have hx := hR x (by simp)
    have ih := pv_digits b hb g xs (fun y hy => hR y (by simp [hy]))
    rw [List.reverse_cons, List.map_append, pv_append, ih]
    show stepV b (valL b xs) (letter g x.toNat) = valL b (x :: xs)
    rw [stepV_letter b _ g _ (by omega)]
    simp only [valL]
    rw [Nat.mul_comm, Nat.add_comm]

theorem pv_txt (g : Bool) (b n : Nat) (hb : 2 ≤ b) (hb2 : b ≤ 16) : pv b 0 (txt g b n) = n := by
  unfold txt
  split
  · rename_i h; subst h
    show stepV b 0 48 = 0
    unfold stepV
    rw [if_neg (by decide)]
    simp [dval]
  · rw [pv_digits b hb2 g _ (InR_lits b hb n), valL_lits b hb]

/-- Figures with an underscore behind the first one, if there are more. -/
def us (on : Bool) (l : List UInt8) : List UInt8 := match on, l with
  | true, c :: d :: r => c :: 95 :: d :: r
  | _, l => l
theorem pv_us (on : Bool) (b n : Nat) (l : List UInt8) : pv b n (us on l) = pv b n l := by
  unfold us
  split
  · rw [pv_cons, pv_cons, pv_cons]; rfl
  · rfl

theorem Body_txt (g : Bool) (b n : Nat) (hb : 2 ≤ b) (hb2 : b ≤ 16) : Body b (txt g b n) ∧ ∀ c ∈ txt g b n, c ≠ 95 := by
  have key : ∀ c ∈ txt g b n, ∃ d, d < b ∧ c = letter g d := by
    intro c hc
    unfold txt at hc
    split at hc
    · simp only [List.mem_singleton] at hc
      exact ⟨0, by omega, by rw [hc]; cases g <;> rfl⟩
    · simp only [List.mem_map, List.mem_reverse] at hc
      obtain ⟨x, hx, rfl⟩ := hc
      have := InR_lits b hb n x hx
      exact ⟨x.toNat, by omega, rfl⟩
  refine ⟨fun c hc => ?_, fun c hc => ?_⟩
  · obtain ⟨d, hd, rfl⟩ := key c hc
    obtain ⟨h1, h2, h3⟩ := letter_cls g d (by omega)
    exact Or.inr ⟨by rw [h2]; exact h1, by rw [h2]; exact hd⟩
  · obtain ⟨d, hd, rfl⟩ := key c hc
    exact (letter_cls g d (by omega)).2.2
theorem Body_us (on : Bool) (b : Nat) (l : List UInt8) (h : Body b l) : Body b (us on l) := by
  unfold us
  split
  · intro c hc
    simp only [List.mem_cons] at hc
    rcases hc with rfl | rfl | hc
    · exact h _ (by simp)
    · exact Or.inl rfl
    · exact h c (by simp only [List.mem_cons]; exact Or.inr hc)
  · exact h
theorem txt_length (g : Bool) (b n : Nat) (hb : 2 ≤ b) : (txt g b n).length = max 1 (lits b n).length := by
  unfold txt
  split
  · rename_i h; subst h; rw [lits_zero]; rfl
  · rename_i h
    rw [lits_pos b n hb h]; simp
end Go.Proofs.YtgpoplfgngiilaaGreatDoor
/- internal/strconv.ParseUint of figures with a prefix, or none, and underscores: their value, or the greatest number and that it is out of range. -/
namespace Go.Proofs.YtgpoplfgngiilaaGreatDoor
open Go.RowKit Go.Proofs.YtgpoplfgngiilaaGreatDoorW.PrintWords

/-- What ParseUint hands back of figures with this value. -/
def PU (V : Nat) (w : World) (e : Ending) (w' : World) : Prop :=
  ((V < 18446744073709551616 → e = .returned (.tuple #[.int .u64 V, .nilIface])) ∧ (18446744073709551616 ≤ V → e = .returned (.tuple #[.int .u64 18446744073709551615, .iface 176 (.int .i64 1)]))) ∧ Below w.heap.size w w'

theorem bytesWorld_below (w : World) (e : TypeId) (s : ByteArray) : Below w.heap.size w (Lib.bytesWorld w e s) :=
  bytes_below (Below.refl _ _) (Nat.le_refl _) e s
theorem hidm {p : Prop} (h : p) : Hid p := h

theorem pu_range {b V acc d k : Nat} {c : UInt8} {cs : List UInt8} (hb : 1 ≤ b) (hk : k < cs.length) (hdec : pv b acc (cs.drop k) = V) (hc : cs[k]'hk = c) (h95 : c ≠ 95) (hd : dval c = d) (h : 18446744073709551616 ≤ acc * b + d) :
    18446744073709551616 ≤ V := by
  rw [List.drop_eq_getElem_cons hk, hc, pv_cons] at hdec
  unfold stepV at hdec
  rw [if_neg h95, hd] at hdec
  rw [← hdec]
  exact Nat.le_trans h (pv_le b hb _ _)
theorem pu_next {b V acc d k : Nat} {c : UInt8} {cs : List UInt8} (hk : k < cs.length) (hdec : pv b acc (cs.drop k) = V) (hc : cs[k]'hk = c) (h95 : c ≠ 95) (hd : dval c = d) :
    pv b (acc * b + d) (cs.drop (k + 1)) = V := by
  rw [List.drop_eq_getElem_cons hk, hc, pv_cons] at hdec
  unfold stepV at hdec
  rw [if_neg h95, hd] at hdec
  exact hdec
theorem pu_skip {b V acc k : Nat} {cs : List UInt8} (hk : k < cs.length) (hdec : pv b acc (cs.drop k) = V) (hc : cs[k]'hk = 95) :
    pv b acc (cs.drop (k + 1)) = V := by
  rw [List.drop_eq_getElem_cons hk, hc, pv_cons] at hdec
  exact hdec
theorem u8_ne {c : UInt8} (h : c.toNat ≠ 95) : c ≠ 95 := fun e => h (by rw [e]; rfl)
theorem or_dig (c : Int) (h0 : 48 ≤ c) (h1 : c ≤ 57) : bits .or .u8 c 32 = c := by
  have : c = 48 ∨ c = 49 ∨ c = 50 ∨ c = 51 ∨ c = 52 ∨ c = 53 ∨ c = 54 ∨ c = 55 ∨ c = 56 ∨ c = 57 := by omega
  rcases this with rfl | rfl | rfl | rfl | rfl | rfl | rfl | rfl | rfl | rfl <;> decide
theorem or_low (c : Int) (h0 : 97 ≤ c) (h1 : c ≤ 102) : bits .or .u8 c 32 = c := by
  have : c = 97 ∨ c = 98 ∨ c = 99 ∨ c = 100 ∨ c = 101 ∨ c = 102 := by omega
  rcases this with rfl | rfl | rfl | rfl | rfl | rfl <;> decide
theorem or_high (c : Int) (h0 : 65 ≤ c) (h1 : c ≤ 70) : bits .or .u8 c 32 = c + 32 := by
  have : c = 65 ∨ c = 66 ∨ c = 67 ∨ c = 68 ∨ c = 69 ∨ c = 70 := by omega
  rcases this with rfl | rfl | rfl | rfl | rfl | rfl <;> decide
theorem lower_calls (c : Int) (w : World) : Calls Tryz.prog 140 #[.int .u8 c] w fun e w' => e = .returned (.int .u8 (bits .or .u8 c 32)) ∧ w = w' := by
  go_enter Tryz.func140, Tryz.ntmps140
  go_wp2_with fail
  go_ret
  exact ⟨rfl, rfl⟩

/-- What the loop of ParseUint keeps. -/
def PURel (b n : Nat) (cs : List UInt8) (V : Nat) (vu vn vi : Value) : Prop :=
  ∃ (k acc : Nat) (a : Int) (u : Bool), vu = .bool u ∧ vn = .int .u64 a ∧ vi = .int .i64 k ∧ k ≤ n ∧ Hid (a = (acc : Int) ∧ acc < 18446744073709551616 ∧ pv b acc (cs.drop k) = V) ∧ Hid (u = true → 95 ∈ cs)

set_option maxHeartbeats 8000000 in
set_option maxRecDepth 1000000 in
theorem pu_b (s : ByteArray) (w : World) (hs : 3 ≤ s.size) (hm : s.size ≤ 1000) (h0 : (s[0]'(by omega)).toNat = 48) (h1 : (s[1]'(by omega)).toNat = 98)
    (hB : Body 2 (s.extract 2 s.size).data.toList) (hU : 95 ∈ (s.extract 2 s.size).data.toList → ∀ W, Calls Tryz.prog 141 #[.string s] W fun e W1 => e = .returned (.bool true) ∧ W = W1) :
    Calls Tryz.prog 98 #[.string s, .int .i64 0, .int .i64 64] w (PU (pv 2 0 (s.extract 2 s.size).data.toList) w) := by
  have H0 : ((s[0]'(by omega)).toNat : Int) = 48 := by omega
  have H1 : ((s[1]'(by omega)).toNat : Int) = 98 := by omega
  have hl : bits .or .u8 98 32 = 98 := by decide
  have b1 : (bits .or .u8 98 32 == 98) = true := by decide
  have b2 : (bits .or .u8 98 32 == 111) = false := by decide
  have b3 : (bits .or .u8 98 32 == 120) = false := by decide
  obtain ⟨t, hT⟩ : ∃ t, t = (s.extract 2 s.size) := ⟨_, rfl⟩
  obtain ⟨cs, hL⟩ : ∃ cs, cs = t.data.toList := ⟨_, rfl⟩
  have hemp : s.toList.isEmpty = false := by
    rw [← decide_eq_emptyBytes]
    exact decide_eq_false (fun h => by rw [h] at hs; revert hs; decide)
  have hcv := Lib.run_convert_string_bytes (P := Tryz.prog) w 9 44 5 t (u := .string) Tryz.underlying9 Tryz.underlying44 Tryz.underlying5
  have hB2 : ∀ j, j < t.size → (Lib.bytesWorld w 5 t).cell? ⟨w.heap.size, j, none⟩ = some (.int .u8 (t.data.toList.getD j 0).toNat) := fun j hj => Lib.bytesWorld_cell w 5 t j hj
  have HBW := bytesWorld_below w 5 t
  obtain ⟨W1, hW1⟩ : ∃ W1, W1 = Lib.bytesWorld w 5 t := ⟨_, rfl⟩
  rw [← hW1] at hcv hB2 HBW
  clear hW1
  rw [← hT, ← hL] at hB hU ⊢
  rw [← hL] at hB2
  have hLn : cs.length = t.size := by rw [hL, Lib.size_eq]
  have htm : t.size ≤ 1000 := by rw [hT]; simp [ByteArray.size_extract]; omega
  obtain ⟨V, hV⟩ : ∃ V, V = pv 2 0 cs := ⟨_, rfl⟩
  have HV := hidm hV
  rw [← hV]
  have HB := hidm hB
  have HU := hidm hU
  clear hL hV hB hU h0 h1
  have hts : (s.extract 2 s.size).size = t.size := by rw [hT]
  rw [hT] at hcv
  have hmv : IntKind.u64.wrap (IntKind.u64.wrap 18446744073709551616 - 1) = 18446744073709551615 := by
    rw [IntKind.wrap_u64, IntKind.wrap_u64]
    decide
  have hct : IntKind.u64.wrap (IntKind.u64.wrap (18446744073709551615 / 2) + 1) = 9223372036854775808 := by
    rw [IntKind.wrap_u64, IntKind.wrap_u64]
    decide
  go_enter Tryz.func98, Tryz.ntmps98
  go_wp2_with (go_at_call 140; (refine (lower_calls _ _).mono ?_); rintro e w' ⟨rfl, rfl⟩)
  go_loop [12, 13, 101] (fun vu vn vi => PURel 2 t.size cs V vu vn vi)
    (fun _ _ vi => t.size - (intOf vi).toNat)
  case atStart => exact ⟨0, 0, 0, false, rfl, rfl, rfl, by omega, hidm ⟨rfl, by omega, HV.out.symm⟩, hidm (fun h => by cases h)⟩
  case round =>
    obtain ⟨k, acc, a, u, rfl, rfl, rfl, hk, hh, HU'⟩ := hrel
    obtain ⟨ha, hacc, hdec⟩ := hh.out
    clear hh
    have a0 : 0 ≤ a := by omega
    have a1 : a < 18446744073709551616 := by omega
    by_cases hkn : k < t.size
    · have hkl : k < cs.length := by omega
      have hc := hB2 k hkn
      have hget : cs.getD k 0 = cs[k]'hkl := by simp [List.getD, List.getElem?_eq_getElem hkl]
      rw [hget] at hc
      obtain ⟨c, hcc⟩ : ∃ c, cs[k]'hkl = c := ⟨_, rfl⟩
      rw [hcc] at hc
      have hcB := HB.out c (by rw [← hcc]; exact List.getElem_mem hkl)
      have hc256 : c.toNat < 256 := c.toNat_lt
      clear hB2 hget
      rcases hcB with h95 | ⟨hcls, hlt⟩
      · have hn := pu_skip hkl hdec (hcc.trans h95)
        have hmem : 95 ∈ cs := by rw [← h95, ← hcc]; exact List.getElem_mem hkl
        have HN : Hid (a = (acc : Int) ∧ acc < 18446744073709551616 ∧ pv 2 acc (cs.drop (k + 1)) = V) := hidm ⟨ha, hacc, hn⟩
        have HM := hidm (show true = true → 95 ∈ cs from fun _ => hmem)
        have h95' : (c.toNat : Int) = 95 := by rw [h95]; rfl
        clear hmem hn hdec hacc ha hcc h95
        go_wp2_with fail
        refine ⟨⟨k + 1, acc, a, true, rfl, rfl, (by first | rfl | (congr 1; omega)), by omega, HN, HM⟩, by simp [intOf]; omega⟩
      · have hpart : (48 ≤ c.toNat ∧ c.toNat ≤ 57) := by unfold Cls at hcls; omega
        have hdig := hpart
        clear hcls
        · obtain ⟨hd0, hd1⟩ := hdig
          
          have hdv : dval c = (c.toNat - 48) := by unfold dval; rw [if_pos (by omega)]
          have h95 : c ≠ 95 := u8_ne (by omega)
          have hdl : ((c.toNat : Int) - 48) < 2 := by omega
          by_cases hcut : 9223372036854775808 ≤ acc
          · have hF := pu_range (by decide) hkl hdec hcc h95 hdv (by omega)
            have icut : 9223372036854775808 ≤ a := by omega
            clear hcut hacc ha hdec hlt
            go_wp2_with fail
            go_ret2
            exact ⟨⟨fun h => absurd h (by omega), fun _ => rfl⟩, HBW⟩
          · by_cases hov : 18446744073709551616 ≤ acc * 2 + (c.toNat - 48)
            · exact absurd hov (by omega)
            · have HN : Hid (a * 2 + ((c.toNat : Int) - 48) = ((acc * 2 + (c.toNat - 48) : Nat) : Int) ∧ acc * 2 + (c.toNat - 48) < 18446744073709551616 ∧ pv 2 (acc * 2 + (c.toNat - 48)) (cs.drop (k + 1)) = V) := hidm ⟨by omega, by omega, pu_next hkl hdec hcc h95 hdv⟩
              have icut : a < 9223372036854775808 := by omega
              have iov : a * 2 + ((c.toNat : Int) - 48) < 18446744073709551616 := by omega
              clear hcut hacc hov hdec ha hlt
              go_wp2_with fail
              first | exact ⟨⟨k + 1, acc * 2 + (c.toNat - 48), a * 2 + ((c.toNat : Int) - 48), u, rfl, (by first | rfl | (congr 1; omega)), (by first | rfl | (congr 1; omega)), by omega, HN, HU'⟩, by simp [intOf]; omega⟩ | exact ⟨⟨_, _, _, _, _, _, _, _, ⟨k + 1, acc * 2 + (c.toNat - 48), a * 2 + ((c.toNat : Int) - 48), u, rfl, rfl, rfl, by omega, HN, HU'⟩, rfl, rfl, rfl, rfl, rfl, rfl, rfl, rfl⟩, by simp [intOf]; omega⟩
    · have hkk : k = t.size := by omega
      subst hkk
      have hF : V = acc := by rw [List.drop_eq_nil_of_le (by omega)] at hdec; exact hdec.symm
      have hV64 : V < 18446744073709551616 := by omega
      have haV : a = (V : Int) := by omega
      clear hF ha hacc hdec
      subst haV
      cases u with
      | false =>
        go_wp2_with fail
        go_ret2
        exact ⟨⟨fun _ => rfl, fun h => absurd h (by omega)⟩, HBW⟩
      | true =>
        have hcall := HU.out (HU'.out rfl)
        go_wp2_with (go_at_call 141; (refine (hcall _).mono ?_); rintro e w' ⟨rfl, rfl⟩)
        go_ret2
        exact ⟨⟨fun _ => rfl, fun h => absurd h (by omega)⟩, HBW⟩

set_option maxHeartbeats 8000000 in
set_option maxRecDepth 1000000 in
theorem pu_B (s : ByteArray) (w : World) (hs : 3 ≤ s.size) (hm : s.size ≤ 1000) (h0 : (s[0]'(by omega)).toNat = 48) (h1 : (s[1]'(by omega)).toNat = 66)
    (hB : Body 2 (s.extract 2 s.size).data.toList) (hU : 95 ∈ (s.extract 2 s.size).data.toList → ∀ W, Calls Tryz.prog 141 #[.string s] W fun e W1 => e = .returned (.bool true) ∧ W = W1) :
    Calls Tryz.prog 98 #[.string s, .int .i64 0, .int .i64 64] w (PU (pv 2 0 (s.extract 2 s.size).data.toList) w) := by
  have H0 : ((s[0]'(by omega)).toNat : Int) = 48 := by omega
  have H1 : ((s[1]'(by omega)).toNat : Int) = 66 := by omega
  have hl : bits .or .u8 66 32 = 98 := by decide
  have b1 : (bits .or .u8 66 32 == 98) = true := by decide
  have b2 : (bits .or .u8 66 32 == 111) = false := by decide
  have b3 : (bits .or .u8 66 32 == 120) = false := by decide
  obtain ⟨t, hT⟩ : ∃ t, t = (s.extract 2 s.size) := ⟨_, rfl⟩
  obtain ⟨cs, hL⟩ : ∃ cs, cs = t.data.toList := ⟨_, rfl⟩
  have hemp : s.toList.isEmpty = false := by
    rw [← decide_eq_emptyBytes]
    exact decide_eq_false (fun h => by rw [h] at hs; revert hs; decide)
  have hcv := Lib.run_convert_string_bytes (P := Tryz.prog) w 9 44 5 t (u := .string) Tryz.underlying9 Tryz.underlying44 Tryz.underlying5
  have hB2 : ∀ j, j < t.size → (Lib.bytesWorld w 5 t).cell? ⟨w.heap.size, j, none⟩ = some (.int .u8 (t.data.toList.getD j 0).toNat) := fun j hj => Lib.bytesWorld_cell w 5 t j hj
  have HBW := bytesWorld_below w 5 t
  obtain ⟨W1, hW1⟩ : ∃ W1, W1 = Lib.bytesWorld w 5 t := ⟨_, rfl⟩
  rw [← hW1] at hcv hB2 HBW
  clear hW1
  rw [← hT, ← hL] at hB hU ⊢
  rw [← hL] at hB2
  have hLn : cs.length = t.size := by rw [hL, Lib.size_eq]
  have htm : t.size ≤ 1000 := by rw [hT]; simp [ByteArray.size_extract]; omega
  obtain ⟨V, hV⟩ : ∃ V, V = pv 2 0 cs := ⟨_, rfl⟩
  have HV := hidm hV
  rw [← hV]
  have HB := hidm hB
  have HU := hidm hU
  clear hL hV hB hU h0 h1
  have hts : (s.extract 2 s.size).size = t.size := by rw [hT]
  rw [hT] at hcv
  have hmv : IntKind.u64.wrap (IntKind.u64.wrap 18446744073709551616 - 1) = 18446744073709551615 := by
    rw [IntKind.wrap_u64, IntKind.wrap_u64]
    decide
  have hct : IntKind.u64.wrap (IntKind.u64.wrap (18446744073709551615 / 2) + 1) = 9223372036854775808 := by
    rw [IntKind.wrap_u64, IntKind.wrap_u64]
    decide
  go_enter Tryz.func98, Tryz.ntmps98
  go_wp2_with (go_at_call 140; (refine (lower_calls _ _).mono ?_); rintro e w' ⟨rfl, rfl⟩)
  go_loop [12, 13, 101] (fun vu vn vi => PURel 2 t.size cs V vu vn vi)
    (fun _ _ vi => t.size - (intOf vi).toNat)
  case atStart => exact ⟨0, 0, 0, false, rfl, rfl, rfl, by omega, hidm ⟨rfl, by omega, HV.out.symm⟩, hidm (fun h => by cases h)⟩
  case round =>
    obtain ⟨k, acc, a, u, rfl, rfl, rfl, hk, hh, HU'⟩ := hrel
    obtain ⟨ha, hacc, hdec⟩ := hh.out
    clear hh
    have a0 : 0 ≤ a := by omega
    have a1 : a < 18446744073709551616 := by omega
    by_cases hkn : k < t.size
    · have hkl : k < cs.length := by omega
      have hc := hB2 k hkn
      have hget : cs.getD k 0 = cs[k]'hkl := by simp [List.getD, List.getElem?_eq_getElem hkl]
      rw [hget] at hc
      obtain ⟨c, hcc⟩ : ∃ c, cs[k]'hkl = c := ⟨_, rfl⟩
      rw [hcc] at hc
      have hcB := HB.out c (by rw [← hcc]; exact List.getElem_mem hkl)
      have hc256 : c.toNat < 256 := c.toNat_lt
      clear hB2 hget
      rcases hcB with h95 | ⟨hcls, hlt⟩
      · have hn := pu_skip hkl hdec (hcc.trans h95)
        have hmem : 95 ∈ cs := by rw [← h95, ← hcc]; exact List.getElem_mem hkl
        have HN : Hid (a = (acc : Int) ∧ acc < 18446744073709551616 ∧ pv 2 acc (cs.drop (k + 1)) = V) := hidm ⟨ha, hacc, hn⟩
        have HM := hidm (show true = true → 95 ∈ cs from fun _ => hmem)
        have h95' : (c.toNat : Int) = 95 := by rw [h95]; rfl
        clear hmem hn hdec hacc ha hcc h95
        go_wp2_with fail
        refine ⟨⟨k + 1, acc, a, true, rfl, rfl, (by first | rfl | (congr 1; omega)), by omega, HN, HM⟩, by simp [intOf]; omega⟩
      · have hpart : (48 ≤ c.toNat ∧ c.toNat ≤ 57) := by unfold Cls at hcls; omega
        have hdig := hpart
        clear hcls
        · obtain ⟨hd0, hd1⟩ := hdig
          
          have hdv : dval c = (c.toNat - 48) := by unfold dval; rw [if_pos (by omega)]
          have h95 : c ≠ 95 := u8_ne (by omega)
          have hdl : ((c.toNat : Int) - 48) < 2 := by omega
          by_cases hcut : 9223372036854775808 ≤ acc
          · have hF := pu_range (by decide) hkl hdec hcc h95 hdv (by omega)
            have icut : 9223372036854775808 ≤ a := by omega
            clear hcut hacc ha hdec hlt
            go_wp2_with fail
            go_ret2
            exact ⟨⟨fun h => absurd h (by omega), fun _ => rfl⟩, HBW⟩
          · by_cases hov : 18446744073709551616 ≤ acc * 2 + (c.toNat - 48)
            · exact absurd hov (by omega)
            · have HN : Hid (a * 2 + ((c.toNat : Int) - 48) = ((acc * 2 + (c.toNat - 48) : Nat) : Int) ∧ acc * 2 + (c.toNat - 48) < 18446744073709551616 ∧ pv 2 (acc * 2 + (c.toNat - 48)) (cs.drop (k + 1)) = V) := hidm ⟨by omega, by omega, pu_next hkl hdec hcc h95 hdv⟩
              have icut : a < 9223372036854775808 := by omega
              have iov : a * 2 + ((c.toNat : Int) - 48) < 18446744073709551616 := by omega
              clear hcut hacc hov hdec ha hlt
              go_wp2_with fail
              first | exact ⟨⟨k + 1, acc * 2 + (c.toNat - 48), a * 2 + ((c.toNat : Int) - 48), u, rfl, (by first | rfl | (congr 1; omega)), (by first | rfl | (congr 1; omega)), by omega, HN, HU'⟩, by simp [intOf]; omega⟩ | exact ⟨⟨_, _, _, _, _, _, _, _, ⟨k + 1, acc * 2 + (c.toNat - 48), a * 2 + ((c.toNat : Int) - 48), u, rfl, rfl, rfl, by omega, HN, HU'⟩, rfl, rfl, rfl, rfl, rfl, rfl, rfl, rfl⟩, by simp [intOf]; omega⟩
    · have hkk : k = t.size := by omega
      subst hkk
      have hF : V = acc := by rw [List.drop_eq_nil_of_le (by omega)] at hdec; exact hdec.symm
      have hV64 : V < 18446744073709551616 := by omega
      have haV : a = (V : Int) := by omega
      clear hF ha hacc hdec
      subst haV
      cases u with
      | false =>
        go_wp2_with fail
        go_ret2
        exact ⟨⟨fun _ => rfl, fun h => absurd h (by omega)⟩, HBW⟩
      | true =>
        have hcall := HU.out (HU'.out rfl)
        go_wp2_with (go_at_call 141; (refine (hcall _).mono ?_); rintro e w' ⟨rfl, rfl⟩)
        go_ret2
        exact ⟨⟨fun _ => rfl, fun h => absurd h (by omega)⟩, HBW⟩

end Go.Proofs.YtgpoplfgngiilaaGreatDoor
/- internal/strconv.underscoreOK: one underscore between two figures is well. -/
namespace Go.Proofs.YtgpoplfgngiilaaGreatDoor
open Go.RowKit Go.Proofs.YtgpoplfgngiilaaGreatDoorW.PrintWords

def Fig10 (c : Int) : Prop := 48 ≤ c ∧ c ≤ 57
def Fig16 (c : Int) : Prop := (48 ≤ c ∧ c ≤ 57) ∨ (97 ≤ c ∧ c ≤ 102) ∨ (65 ≤ c ∧ c ≤ 70)
theorem ustep95 {i i0 : Nat} {S0 : Int} (h : i0 < i + 1) : Hid ((95 : Int) = if i + 1 = i0 then S0 else if i + 1 = i + 1 then 95 else 48) := by
  show (95 : Int) = _
  rw [if_neg (by omega), if_pos rfl]
/-- What the loop of underscoreOK keeps. -/
def URel (i0 m n : Nat) (S0 : Int) (v3 v4 : Value) : Prop :=
  ∃ (i : Nat) (x : Int), v4 = .int .i64 i ∧ v3 = .int .i32 x ∧ i0 ≤ i ∧ i ≤ n ∧ Hid (x = if i = i0 then S0 else if i = m + 1 then 95 else 48)

set_option maxHeartbeats 8000000 in
set_option maxRecDepth 1000000 in
theorem uok_n (s : ByteArray) (w : World) (m : Nat) (hm : 0 < m) (hms : m + 1 < s.size) (hs : s.size ≤ 1000) (h0 : 49 ≤ (s[0]'(by omega)).toNat ∧ (s[0]'(by omega)).toNat ≤ 57) (hM : (s[m]'(by omega)).toNat = 95)
    (hF : ∀ (j : Nat) (hj : j < s.size), 0 ≤ j → j ≠ m → Fig10 ((s[j]'hj).toNat : Int)) :
    Calls Tryz.prog 141 #[.string s] w fun e w' => e = .returned (.bool true) ∧ w = w' := by
  have hM' : ((s[m]'(by omega)).toNat : Int) = 95 := by omega
  obtain ⟨q0, H0⟩ : ∃ q : Int, ((s[0]'(by omega)).toNat : Int) = q := ⟨_, rfl⟩
  have hq0 : 49 ≤ q0 ∧ q0 ≤ 57 := by omega
  have g1 : (q0 == 45) = false := beq_false_of_ne (by omega)
  have g2 : (q0 == 43) = false := beq_false_of_ne (by omega)
  have g3 : (q0 == 48) = false := beq_false_of_ne (by omega)
  have HF := hidm hF
  have HM := hidm hM'
  clear hM hF hM' h0
  go_enter Tryz.func141, Tryz.ntmps141
  go_wp2_with (go_at_call 140; (refine (lower_calls _ _).mono ?_); rintro e w' ⟨rfl, rfl⟩)
  go_loop [3, 4] (fun v3 v4 => URel 0 m s.size 94 v3 v4) (fun _ v4 => s.size - (intOf v4).toNat)
  case atStart => exact ⟨0, 94, rfl, rfl, by omega, by omega, hidm (by simp)⟩
  case round =>
    obtain ⟨i, x, rfl, rfl, h0i, hin, hx⟩ := hrel
    by_cases hlt : i < s.size
    · by_cases him : i = m
      · have hc := HM.out
        have hxv : x = 48 := by have := hx.out; rw [if_neg (by omega), if_neg (by omega)] at this; exact this
        subst hxv
        subst him
        clear hx
        have o95 : bits .or .u8 95 32 = 127 := by decide
        go_wp2_with (go_at_call 140; (refine (lower_calls _ _).mono ?_); rintro e w' ⟨rfl, rfl⟩)
        first | exact ⟨⟨i + 1, 95, rfl, rfl, by omega, by omega, ustep95 (by omega)⟩, by simp [intOf]; omega⟩ | exact ⟨⟨_, _, ⟨i + 1, 95, rfl, rfl, by omega, by omega, ustep95 (by omega)⟩, rfl, rfl⟩, by simp [intOf]; omega⟩
      · have hf := HF.out i hlt h0i him
        obtain ⟨c, hc⟩ : ∃ c : Int, ((s[i]'hlt).toNat : Int) = c := ⟨_, rfl⟩
        rw [hc] at hf
        have HN : Hid ((48 : Int) = if i + 1 = 0 then 94 else if i + 1 = m + 1 then 95 else 48) := hidm (by rw [if_neg (by omega), if_neg (by omega)])
        clear hx
        unfold Fig10 at hf
        obtain ⟨f0, f1⟩ := hf
        go_wp2_with (go_at_call 140; (refine (lower_calls _ _).mono ?_); rintro e w' ⟨rfl, rfl⟩)
        first | exact ⟨⟨i + 1, 48, rfl, rfl, by omega, by omega, HN⟩, by simp [intOf]; omega⟩ | exact ⟨⟨_, _, ⟨i + 1, 48, rfl, rfl, by omega, by omega, HN⟩, rfl, rfl⟩, by simp [intOf]; omega⟩
    · have hie : i = s.size := by omega
      have hxv : x = 48 := by have := hx.out; rw [if_neg (by omega), if_neg (by omega)] at this; exact this
      subst hxv
      subst hie
      clear hx
      go_wp2_with fail
      go_ret
      exact ⟨rfl, rfl⟩

set_option maxHeartbeats 8000000 in
set_option maxRecDepth 1000000 in
theorem uok_0 (s : ByteArray) (w : World) (m : Nat) (hm : 0 < m) (hms : m + 1 < s.size) (hs : s.size ≤ 1000) (h0 : (s[0]'(by omega)).toNat = 48) (h1 : 48 ≤ (s[1]'(by omega)).toNat ∧ (s[1]'(by omega)).toNat ≤ 57) (hM : (s[m]'(by omega)).toNat = 95)
    (hF : ∀ (j : Nat) (hj : j < s.size), 0 ≤ j → j ≠ m → Fig10 ((s[j]'hj).toNat : Int)) :
    Calls Tryz.prog 141 #[.string s] w fun e w' => e = .returned (.bool true) ∧ w = w' := by
  have hM' : ((s[m]'(by omega)).toNat : Int) = 95 := by omega
  have H0 : ((s[0]'(by omega)).toNat : Int) = 48 := by omega
  obtain ⟨q, H1⟩ : ∃ q : Int, ((s[1]'(by omega)).toNat : Int) = q := ⟨_, rfl⟩
  have hq : 48 ≤ q ∧ q ≤ 57 := by omega
  have g1 : (q == 98) = false := beq_false_of_ne (by omega)
  have g2 : (q == 111) = false := beq_false_of_ne (by omega)
  have g3 : (q == 120) = false := beq_false_of_ne (by omega)
  have hl : bits .or .u8 q 32 = q := or_dig q hq.1 hq.2
  have b1 : (bits .or .u8 q 32 == 98) = false := by rw [hl]; exact beq_false_of_ne (by omega)
  have b2 : (bits .or .u8 q 32 == 111) = false := by rw [hl]; exact beq_false_of_ne (by omega)
  have b3 : (bits .or .u8 q 32 == 120) = false := by rw [hl]; exact beq_false_of_ne (by omega)
  have HF := hidm hF
  have HM := hidm hM'
  clear hM hF hM' h0 h1
  go_enter Tryz.func141, Tryz.ntmps141
  go_wp2_with (go_at_call 140; (refine (lower_calls _ _).mono ?_); rintro e w' ⟨rfl, rfl⟩)
  go_loop [3, 4] (fun v3 v4 => URel 0 m s.size 94 v3 v4) (fun _ v4 => s.size - (intOf v4).toNat)
  case atStart => exact ⟨0, 94, rfl, rfl, by omega, by omega, hidm (by simp)⟩
  case round =>
    obtain ⟨i, x, rfl, rfl, h0i, hin, hx⟩ := hrel
    by_cases hlt : i < s.size
    · by_cases him : i = m
      · have hc := HM.out
        have hxv : x = 48 := by have := hx.out; rw [if_neg (by omega), if_neg (by omega)] at this; exact this
        subst hxv
        subst him
        clear hx
        have o95 : bits .or .u8 95 32 = 127 := by decide
        go_wp2_with (go_at_call 140; (refine (lower_calls _ _).mono ?_); rintro e w' ⟨rfl, rfl⟩)
        first | exact ⟨⟨i + 1, 95, rfl, rfl, by omega, by omega, ustep95 (by omega)⟩, by simp [intOf]; omega⟩ | exact ⟨⟨_, _, ⟨i + 1, 95, rfl, rfl, by omega, by omega, ustep95 (by omega)⟩, rfl, rfl⟩, by simp [intOf]; omega⟩
      · have hf := HF.out i hlt h0i him
        obtain ⟨c, hc⟩ : ∃ c : Int, ((s[i]'hlt).toNat : Int) = c := ⟨_, rfl⟩
        rw [hc] at hf
        have HN : Hid ((48 : Int) = if i + 1 = 0 then 94 else if i + 1 = m + 1 then 95 else 48) := hidm (by rw [if_neg (by omega), if_neg (by omega)])
        clear hx
        unfold Fig10 at hf
        obtain ⟨f0, f1⟩ := hf
        go_wp2_with (go_at_call 140; (refine (lower_calls _ _).mono ?_); rintro e w' ⟨rfl, rfl⟩)
        first | exact ⟨⟨i + 1, 48, rfl, rfl, by omega, by omega, HN⟩, by simp [intOf]; omega⟩ | exact ⟨⟨_, _, ⟨i + 1, 48, rfl, rfl, by omega, by omega, HN⟩, rfl, rfl⟩, by simp [intOf]; omega⟩
    · have hie : i = s.size := by omega
      have hxv : x = 48 := by have := hx.out; rw [if_neg (by omega), if_neg (by omega)] at this; exact this
      subst hxv
      subst hie
      clear hx
      go_wp2_with fail
      go_ret
      exact ⟨rfl, rfl⟩

end Go.Proofs.YtgpoplfgngiilaaGreatDoor
/- The text of an integer: its figures, an underscore behind the first one or none, a prefix ahead: plain facts. -/
namespace Go.Proofs.YtgpoplfgngiilaaGreatDoor
open Go.RowKit

theorem lits_len_le (b V : Nat) (hb : 2 ≤ b) (hV : V < 18446744073709551616 ^ 10) : (lits b V).length ≤ 640 := by
  refine (lits_figs b 640 V hb (Nat.lt_of_lt_of_le hV ?_)).2
  have h : 2 ^ 640 ≤ b ^ 640 := Nat.pow_le_pow_left hb 640
  have e : (18446744073709551616 : Nat) ^ 10 = 2 ^ 640 := by decide +kernel
  omega
theorem txt_len (g : Bool) (b V : Nat) (hb : 2 ≤ b) (hV : V < 18446744073709551616 ^ 10) : 1 ≤ (txt g b V).length ∧ (txt g b V).length ≤ 640 := by
  have := lits_len_le b V hb hV
  rw [txt_length g b V hb]
  omega
theorem us_len (on : Bool) (l : List UInt8) : l.length ≤ (us on l).length ∧ (us on l).length ≤ l.length + 1 := by
  unfold us
  split
  · simp only [List.length_cons]; omega
  · omega
theorem us_first (on : Bool) (l : List UInt8) : (us on l)[0]? = l[0]? := by
  unfold us
  split
  · rfl
  · rfl
/-- Where an underscore stands. -/
theorem us_at (on : Bool) (l : List UInt8) (hl : ∀ c ∈ l, c ≠ 95) (j : Nat) (hj : j < (us on l).length) (h : (us on l)[j]'hj = 95) : j = 1 ∧ 3 ≤ (us on l).length := by
  unfold us at hj h ⊢
  split at hj <;> rename_i h2
  · match j with
    | 0 => exact absurd h (hl _ (by simp))
    | 1 => exact ⟨rfl, by simp only [List.length_cons]; omega⟩
    | (k + 2) =>
      refine absurd h (hl _ ?_)
      simp only [List.getElem_cons_succ]
      exact List.mem_cons_of_mem _ (List.getElem_mem _)
  · exact absurd h (hl _ (List.getElem_mem hj))
theorem us_mem (on : Bool) (l : List UInt8) (hl : ∀ c ∈ l, c ≠ 95) (h : 95 ∈ us on l) : ∃ hj : 1 < (us on l).length, (us on l)[1]'hj = 95 ∧ 3 ≤ (us on l).length := by
  obtain ⟨j, hj, he⟩ := List.getElem_of_mem h
  obtain ⟨rfl, h3⟩ := us_at on l hl j hj he
  exact ⟨hj, he, h3⟩

/-- The figures with an underscore or none: all that the readers ask. -/
structure Figs (b V : Nat) (l : List UInt8) : Prop where
  body : Body b l
  val : pv b 0 l = V
  len1 : 1 ≤ l.length
  len : l.length ≤ 641
  und : ∀ (j : Nat) (hj : j < l.length), l[j]'hj = 95 → 1 ≤ j ∧ j + 1 < l.length ∧ l[j - 1]? ≠ some 95
  one : 95 ∈ l → ∃ hj : 1 < l.length, l[1]'hj = 95 ∧ 3 ≤ l.length ∧ ∀ (j : Nat) (hj : j < l.length), j ≠ 1 → l[j]'hj ≠ 95
  fst : ∀ h : 0 < l.length, Cls (l[0]'h).toNat (dval (l[0]'h)) ∧ dval (l[0]'h) < b
  pos : 0 < V → ∀ h : 0 < l.length, 0 < dval (l[0]'h)

theorem valL_lt_pow (b : Nat) (hb : 2 ≤ b) : ∀ xs : List Int, InR b xs → valL b xs < b ^ xs.length
  | [], _ => by simp [valL]
  | x :: xs, hR => by
    have hx := hR x (by simp)
    have ih := valL_lt_pow b hb xs (fun y hy => hR y (by simp [hy]))
    simp only [valL, List.length_cons, Nat.pow_succ]
    have h1 : (valL b xs + 1) * b ≤ b ^ xs.length * b := Nat.mul_le_mul_right b ih
    rw [Nat.add_mul, Nat.mul_comm (valL b xs) b] at h1
    omega
theorem txt_top (g : Bool) (b V : Nat) (hb : 2 ≤ b) (hb2 : b ≤ 16) (hV : 0 < V) (h : 0 < (txt g b V).length) : 0 < dval ((txt g b V)[0]'h) := by
  have hne : V ≠ 0 := by omega
  have e : txt g b V = (lits b V).reverse.map (fun d => letter g d.toNat) := by unfold txt; rw [if_neg hne]
  have hr : (lits b V) ≠ [] := by rw [lits_pos b V hb hne]; simp
  have hx : 0 < ((lits b V).getLast hr).toNat ∧ ((lits b V).getLast hr).toNat < b := by
    have hR := InR_lits b hb V _ (List.getLast_mem hr)
    refine ⟨?_, by omega⟩
    have h1 := valL_lits b hb V
    have h2 : lits b V = (lits b V).dropLast ++ [(lits b V).getLast hr] := (List.dropLast_concat_getLast hr).symm
    generalize (lits b V).getLast hr = z at *
    rcases Int.lt_or_le 0 z with hz | hz
    · omega
    · exfalso
      have hz0 : z = 0 := by omega
      have h3 : valL b (lits b V) = valL b (lits b V).dropLast := by
        conv => lhs; rw [h2, hz0]
        exact lits_snoc_zero b _
      have h4 : (lits b V).length ≤ (lits b V).dropLast.length := by
        have hR2 : InR b (lits b V).dropLast := fun y hy => InR_lits b hb V y ((List.dropLast_sublist _).subset hy)
        have := valL_lt_pow b hb _ hR2
        rw [← h3, h1] at this
        exact (lits_figs b _ V hb this).2
      rw [List.length_dropLast] at h4
      have := List.length_pos_iff.2 hr
      omega
  have e2 : (txt g b V)[0]? = some (letter g ((lits b V).getLast hr).toNat) := by
    rw [e, List.getElem?_map, List.getElem?_reverse (List.length_pos_iff.2 hr)]
    rw [Nat.sub_zero, ← List.getLast?_eq_getElem?, List.getLast?_eq_some_getLast hr]
    rfl
  rw [(List.getElem_eq_iff h).2 e2, (letter_cls g _ (by omega)).2.1]
  exact hx.1

theorem figs_ok (g on : Bool) (b V : Nat) (hb : 2 ≤ b) (hb2 : b ≤ 16) (hV : V < 18446744073709551616 ^ 10) : Figs b V (us on (txt g b V)) := by
  obtain ⟨h1, h2⟩ := Body_txt g b V hb hb2
  obtain ⟨t1, t2⟩ := txt_len g b V hb hV
  obtain ⟨u1, u2⟩ := us_len on (txt g b V)
  have h0 : ∀ h : 0 < (us on (txt g b V)).length, (us on (txt g b V))[0]'h = (txt g b V)[0]'(by omega) := fun h => by
    refine (List.getElem_eq_iff h).2 ?_
    rw [us_first, List.getElem?_eq_getElem (by omega)]
  refine ⟨Body_us on b _ h1, by rw [pv_us, pv_txt g b V hb hb2], by omega, by omega, ?_, ?_, ?_, ?_⟩
  · intro j hj h
    obtain ⟨rfl, h3⟩ := us_at on _ h2 j hj h
    refine ⟨Nat.le_refl _, by omega, ?_⟩
    rw [Nat.sub_self, us_first, List.getElem?_eq_getElem (by omega)]
    intro h4
    exact h2 _ (List.getElem_mem (by omega)) (Option.some.inj h4)
  · intro h
    obtain ⟨hj, h3, h4⟩ := us_mem on _ h2 h
    exact ⟨hj, h3, h4, fun j hj hne h => hne (us_at on _ h2 j hj h).1⟩
  · intro h
    rw [h0 h]
    exact (h1 _ (List.getElem_mem (by omega))).resolve_left (h2 _ (List.getElem_mem (by omega)))
  · intro hp h
    rw [h0 h]
    exact txt_top g b V hb hb2 hp _

theorem fig10_of {b : Nat} (hb : b ≤ 10) {c : UInt8} (h : Cls c.toNat (dval c) ∧ dval c < b) : Fig10 (c.toNat : Int) := by
  unfold Cls Fig10 at *
  omega
theorem fig16_of {c : UInt8} {b : Nat} (h : Cls c.toNat (dval c) ∧ dval c < b) : Fig16 (c.toNat : Int) := by
  unfold Cls Fig16 at *
  omega
/-- A text with the bytes p ahead of l. -/
theorem pre_get (p l : List UInt8) (j : Nat) (hj : j < l.length) (h : p.length + j < (bstr (p ++ l)).size) : (bstr (p ++ l))[p.length + j]'h = l[j]'hj := by
  rw [bstr_get, List.getElem_append_right (by omega)]
  congr 1
  omega
theorem pre_ext (p l : List UInt8) (m : Nat) (hm : m = p.length) : l = ((bstr (p ++ l)).extract m (bstr (p ++ l)).size).data.toList := by
  rw [bstr_extract p l m _ hm (by rw [bstr_size, List.length_append])]
  simp [bstr]
end Go.Proofs.YtgpoplfgngiilaaGreatDoor
