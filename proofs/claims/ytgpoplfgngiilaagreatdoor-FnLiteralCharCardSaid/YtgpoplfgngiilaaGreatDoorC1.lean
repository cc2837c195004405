/- strconv.UnquoteChar at the characters that stand by their number. -/
import Derived.Test.YtgpoplfgngiilaaGreatDoorA1
import Derived.Test.YtgpoplfgngiilaaGreatDoorA0
import Derived.WalkSpells
import Derived.WalkLawsBesides
import Derived.Outline
namespace Go.Proofs.YtgpoplfgngiilaaGreatDoor
open Go.RowKit Go.Proofs.YtgpoplfgngiilaaGreatDoorW.PrintWords

/-- A figure of base 16, in small letters. -/
def hexb (d : Int) : Int := if d < 10 then 48 + d else 87 + d
/-- The number that the first j of f figures (base B) of n make; the figure with index j. -/
def pre (B n f j : Nat) : Int := ((n / B ^ (f - j) : Nat) : Int)
def dig (B n f j : Nat) : Int := (((n / B ^ (f - 1 - j)) % B : Nat) : Int)

theorem unhex_any (b d : Int) (w : World) (h0 : 0 ≤ d) (h1 : d < 16) (hb : b = hexb d) :
    Calls Tryz.prog 76 #[.int .u8 b] w fun e w' => e = .returned (.tuple #[.int .i32 d, .bool true]) ∧ w = w' := by
  unfold hexb at hb
  by_cases hd : d < 10
  · rw [if_pos hd] at hb
    refine (unhex_low b w (by omega) (by omega)).mono ?_
    rintro e w' ⟨he, hw⟩
    exact ⟨by rw [he, show b - 48 = d by omega], hw⟩
  · rw [if_neg hd] at hb
    refine (unhex_high b w (by omega) (by omega)).mono ?_
    rintro e w' ⟨he, hw⟩
    exact ⟨by rw [he, show b - 97 + 10 = d by omega], hw⟩

/-- What UnquoteChar hands back of a character. -/
def Unq (r : Int) (w : World) (e : Ending) (w' : World) : Prop := ∃ m t, e = .returned (.tuple #[.int .i32 r, .bool m, .string t, .nilIface]) ∧ Below w.heap.size w w'

theorem pre_all (B n f : Nat) : pre B n f f = n := by unfold pre; simp
theorem pre_zero (B n f : Nat) (h : n < B ^ f) : pre B n f 0 = 0 := by unfold pre; rw [Nat.sub_zero, Nat.div_eq_of_lt h]; rfl
theorem dig_bd (B n f j : Nat) (h : 0 < B) : 0 ≤ dig B n f j ∧ dig B n f j < B := by
  unfold dig
  have := Nat.mod_lt (n / B ^ (f - 1 - j)) h
  omega
theorem pre_step (B n f j : Nat) (h : j < f) : pre B n f (j + 1) = pre B n f j * B + dig B n f j := by
  unfold pre dig
  have e : f - j = (f - 1 - j) + 1 := by omega
  have e2 : f - (j + 1) = f - 1 - j := by omega
  rw [e, e2, Nat.pow_succ, ← Nat.div_div_eq_div_mul, ← Int.natCast_mul, ← Int.natCast_add, Nat.mul_comm, Nat.div_add_mod]
theorem pre_le (B n f j : Nat) (h : j < f) : 0 ≤ pre B n f j ∧ pre B n f j * B ≤ n := by
  unfold pre
  have e : f - j = (f - 1 - j) + 1 := by omega
  rw [e, Nat.pow_succ, ← Nat.div_div_eq_div_mul]
  have h1 := Nat.div_le_self n (B ^ (f - 1 - j))
  have h2 := Nat.div_mul_le_self (n / B ^ (f - 1 - j)) B
  refine ⟨Int.natCast_nonneg _, ?_⟩
  rw [← Int.natCast_mul]
  omega
theorem or_join (i : Nat) (x y : Int) (h0 : 0 ≤ x) (hx : x % 2 ^ i = 0) (hx1 : x < 2147483648) (h1 : 0 ≤ y) (h2 : y < 2 ^ i) (h3 : y < 2147483648) : bits .or .i32 x y = x + y :=
  bits_join .i32 31 (by decide) wraps_i32 i x y h0 hx hx1 h1 h2 h3

set_option maxHeartbeats 2000000 in
set_option maxRecDepth 100000 in
theorem unq_x (s : ByteArray) (n : Nat) (w : World) (hn : n < 256) (hs : s.size = 4) (h0 : (s[0]'(by omega)).toNat = 92) (h1 : (s[1]'(by omega)).toNat = 120)
    (hd : ∀ (j : Nat) (hj : j < (s.extract 2 4).size), (((s.extract 2 4)[j]'hj).toNat : Int) = hexb (dig 16 n 2 j)) :
    Calls Tryz.prog 48 #[.string s, .int .u8 39] w (Unq n w) := by
  have H0 : ((s[0]'(by omega)).toNat : Int) = 92 := by omega
  have H1 : ((s[1]'(by omega)).toNat : Int) = 120 := by omega
  have HD := Aside0.mk hd
  have he : (s.extract 2 4).size = 2 := by simp [ByteArray.size_extract]; omega
  have HE := Aside0.mk he
  have HN := Aside0.mk hn
  clear hd he hn
  go_enter Tryz.func48, Tryz.ntmps48
  go_wp2_with fail
  go_loopg [7, 13, 14] 2 (fun kq v7 v13 v14 w' => ∃ j : Nat, v7 = .nilIface ∧ v14 = .int .i64 j ∧ v13 = .int .i32 (pre 16 n 2 j) ∧ Aside0 (j ≤ 2 ∧ kq = 2 - j) ∧ Aside0 (w = w'))
  case atStart => exact ⟨0, rfl, rfl, by rw [pre_zero 16 n 2 (by have := HN.out; omega)], ⟨by omega⟩, ⟨rfl⟩⟩
  case round =>
    obtain ⟨j, rfl, rfl, rfl, HJ, HWE⟩ := hrel
    by_cases hlt : j < 2
    · have hb : decide ((j : Int) < 2) = true := by simp; omega
      obtain ⟨hp0, hp1⟩ := pre_le 16 n 2 j hlt
      obtain ⟨hq0, hq1⟩ := dig_bd 16 n 2 j (by decide)
      have HP := Aside0.mk (pre_step 16 n 2 j hlt)
      have hp2 : pre 16 n 2 j ≤ 255 := by have := HN.out; omega
      go_wp2_with (go_at_call 76; go_must (refine (unhex_any _ (dig 16 n 2 j) _ hq0 hq1 (HD.out j (by have := HE.out; omega))).mono ?_); rintro e w1 ⟨rfl, rfl⟩)
      go_roundg (gk - 1)
      case measure => have := HJ.out; omega
      case rel => exact ⟨j + 1, rfl, by go_num, by rw [HP.out, or_join 4 _ _ (by omega) (by omega) (by omega) (by omega) (by omega) (by omega)]; rfl, ⟨by have := HJ.out; omega⟩, HWE⟩
    · have hb : decide ((j : Int) < 2) = false := by simp; omega
      obtain rfl : j = 2 := by have := HJ.out; omega
      rw [pre_all]
      clear hlt
      obtain rfl := HWE.out
      go_wp2_with (first | (go_at_call 999))
      exact bodyPost_ret (v := .tuple #[.int .i32 n, .bool false, .string _, .nilIface]) (by simp [results, Tryz.results48, go_sem]; rfl) rfl ⟨_, _, rfl, Below.refl _ _⟩

set_option maxHeartbeats 2000000 in
set_option maxRecDepth 100000 in
theorem unq_u (s : ByteArray) (n : Nat) (w : World) (hn : n < 65536) (hv : n < 55296 ∨ 57343 < n) (hs : s.size = 6) (h0 : (s[0]'(by omega)).toNat = 92) (h1 : (s[1]'(by omega)).toNat = 117)
    (hd : ∀ (j : Nat) (hj : j < (s.extract 2 6).size), (((s.extract 2 6)[j]'hj).toNat : Int) = hexb (dig 16 n 4 j)) :
    Calls Tryz.prog 48 #[.string s, .int .u8 39] w (Unq n w) := by
  have H0 : ((s[0]'(by omega)).toNat : Int) = 92 := by omega
  have H1 : ((s[1]'(by omega)).toNat : Int) = 117 := by omega
  have HD := Aside0.mk hd
  have he : (s.extract 2 6).size = 4 := by simp [ByteArray.size_extract]; omega
  have HE := Aside0.mk he
  have HN := Aside0.mk hn
  have HVR := Aside0.mk (show (n : Int) < 55296 ∨ (57343 < (n : Int) ∧ (n : Int) ≤ 1114111) by omega)
  clear hd he hn hv
  go_enter Tryz.func48, Tryz.ntmps48
  go_wp2_with fail
  go_loopg [7, 13, 14] 4 (fun kq v7 v13 v14 w' => ∃ j : Nat, v7 = .nilIface ∧ v14 = .int .i64 j ∧ v13 = .int .i32 (pre 16 n 4 j) ∧ Aside0 (j ≤ 4 ∧ kq = 4 - j) ∧ Aside0 (w = w'))
  case atStart => exact ⟨0, rfl, rfl, by rw [pre_zero 16 n 4 (by have := HN.out; omega)], ⟨by omega⟩, ⟨rfl⟩⟩
  case round =>
    obtain ⟨j, rfl, rfl, rfl, HJ, HWE⟩ := hrel
    by_cases hlt : j < 4
    · have hb : decide ((j : Int) < 4) = true := by simp; omega
      obtain ⟨hp0, hp1⟩ := pre_le 16 n 4 j hlt
      obtain ⟨hq0, hq1⟩ := dig_bd 16 n 4 j (by decide)
      have HP := Aside0.mk (pre_step 16 n 4 j hlt)
      have hp2 : pre 16 n 4 j ≤ 65535 := by have := HN.out; omega
      go_wp2_with (go_at_call 76; go_must (refine (unhex_any _ (dig 16 n 4 j) _ hq0 hq1 (HD.out j (by have := HE.out; omega))).mono ?_); rintro e w1 ⟨rfl, rfl⟩)
      go_roundg (gk - 1)
      case measure => have := HJ.out; omega
      case rel => exact ⟨j + 1, rfl, by go_num, by rw [HP.out, or_join 4 _ _ (by omega) (by omega) (by omega) (by omega) (by omega) (by omega)]; rfl, ⟨by have := HJ.out; omega⟩, HWE⟩
    · have hb : decide ((j : Int) < 4) = false := by simp; omega
      obtain rfl : j = 4 := by have := HJ.out; omega
      rw [pre_all]
      clear hlt
      obtain rfl := HWE.out
      go_wp2_with (first | (go_at_call 999) | (go_at_call 77; go_must (refine (validRune_yes _ _ (by omega) HVR.out).mono ?_); rintro e w1 ⟨rfl, rfl⟩))
      exact bodyPost_ret (v := .tuple #[.int .i32 n, .bool true, .string _, .nilIface]) (by simp [results, Tryz.results48, go_sem]; rfl) rfl ⟨_, _, rfl, Below.refl _ _⟩

set_option maxHeartbeats 2000000 in
set_option maxRecDepth 100000 in
theorem unq_U (s : ByteArray) (n : Nat) (w : World) (hn : n < 1114112) (hv : n < 55296 ∨ 57343 < n) (hs : s.size = 10) (h0 : (s[0]'(by omega)).toNat = 92) (h1 : (s[1]'(by omega)).toNat = 85)
    (hd : ∀ (j : Nat) (hj : j < (s.extract 2 10).size), (((s.extract 2 10)[j]'hj).toNat : Int) = hexb (dig 16 n 8 j)) :
    Calls Tryz.prog 48 #[.string s, .int .u8 39] w (Unq n w) := by
  have H0 : ((s[0]'(by omega)).toNat : Int) = 92 := by omega
  have H1 : ((s[1]'(by omega)).toNat : Int) = 85 := by omega
  have HD := Aside0.mk hd
  have he : (s.extract 2 10).size = 8 := by simp [ByteArray.size_extract]; omega
  have HE := Aside0.mk he
  have HN := Aside0.mk hn
  have HVR := Aside0.mk (show (n : Int) < 55296 ∨ (57343 < (n : Int) ∧ (n : Int) ≤ 1114111) by omega)
  clear hd he hn hv
  go_enter Tryz.func48, Tryz.ntmps48
  go_wp2_with fail
  go_loopg [7, 13, 14] 8 (fun kq v7 v13 v14 w' => ∃ j : Nat, v7 = .nilIface ∧ v14 = .int .i64 j ∧ v13 = .int .i32 (pre 16 n 8 j) ∧ Aside0 (j ≤ 8 ∧ kq = 8 - j) ∧ Aside0 (w = w'))
  case atStart => exact ⟨0, rfl, rfl, by rw [pre_zero 16 n 8 (by have := HN.out; omega)], ⟨by omega⟩, ⟨rfl⟩⟩
  case round =>
    obtain ⟨j, rfl, rfl, rfl, HJ, HWE⟩ := hrel
    by_cases hlt : j < 8
    · have hb : decide ((j : Int) < 8) = true := by simp; omega
      obtain ⟨hp0, hp1⟩ := pre_le 16 n 8 j hlt
      obtain ⟨hq0, hq1⟩ := dig_bd 16 n 8 j (by decide)
      have HP := Aside0.mk (pre_step 16 n 8 j hlt)
      have hp2 : pre 16 n 8 j ≤ 1114111 := by have := HN.out; omega
      go_wp2_with (go_at_call 76; go_must (refine (unhex_any _ (dig 16 n 8 j) _ hq0 hq1 (HD.out j (by have := HE.out; omega))).mono ?_); rintro e w1 ⟨rfl, rfl⟩)
      go_roundg (gk - 1)
      case measure => have := HJ.out; omega
      case rel => exact ⟨j + 1, rfl, by go_num, by rw [HP.out, or_join 4 _ _ (by omega) (by omega) (by omega) (by omega) (by omega) (by omega)]; rfl, ⟨by have := HJ.out; omega⟩, HWE⟩
    · have hb : decide ((j : Int) < 8) = false := by simp; omega
      obtain rfl : j = 8 := by have := HJ.out; omega
      rw [pre_all]
      clear hlt
      obtain rfl := HWE.out
      go_wp2_with (first | (go_at_call 999) | (go_at_call 77; go_must (refine (validRune_yes _ _ (by omega) HVR.out).mono ?_); rintro e w1 ⟨rfl, rfl⟩))
      exact bodyPost_ret (v := .tuple #[.int .i32 n, .bool true, .string _, .nilIface]) (by simp [results, Tryz.results48, go_sem]; rfl) rfl ⟨_, _, rfl, Below.refl _ _⟩

end Go.Proofs.YtgpoplfgngiilaaGreatDoor
