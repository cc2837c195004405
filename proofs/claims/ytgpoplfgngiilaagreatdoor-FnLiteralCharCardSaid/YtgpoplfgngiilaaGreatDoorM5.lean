/- Plain laws: a rune as UTF-8 is decoded as what it was. -/
import Derived.Test.YtgpoplfgngiilaaGreatDoorM4
import Derived.Lib.DecodeN
import Derived.Shelf.Unicode.DecodeSlow
namespace Go.Proofs.YtgpoplfgngiilaaGreatDoor
open Go.RowKit Go.Proofs.YtgpoplfgngiilaaGreatDoorW.PrintWords Go.Proofs.YtgpoplfgngiilaaGreatDoorW.PrintMore

/-- The bytes of a rune. -/
def enc (r : Nat) : List Nat :=
  if r < 128 then [r] else if r < 2048 then [192 + r / 64, 128 + r % 64]
  else if r < 65536 then [224 + r / 4096, 128 + r / 64 % 64, 128 + r % 64]
  else [240 + r / 262144, 128 + r / 4096 % 64, 128 + r / 64 % 64, 128 + r % 64]
def encS (r : Nat) : ByteArray := bstr ((enc r).map UInt8.ofNat)

theorem tdn (a b : Nat) : Int.tdiv (a : Int) (b : Int) = ((a / b : Nat) : Int) := by rw [Int.tdiv_eq_ediv_of_nonneg (Int.natCast_nonneg _)]; exact (Int.natCast_ediv _ _).symm
theorem tmn (a b : Nat) : Int.tmod (a : Int) (b : Int) = ((a % b : Nat) : Int) := by rw [Int.tmod_eq_emod_of_nonneg (Int.natCast_nonneg _)]; exact (Int.natCast_emod _ _).symm
theorem w64n (a : Nat) (h : a < 9223372036854775808) : wrap64 (a : Int) = (a : Int) := by unfold wrap64; omega
/-- A byte that is reckoned with wraps. -/
theorem byte_of (c a : Nat) (h : c + a < 256) : (wrap64 ((c : Int) + (a : Int))) % 256 = ((c + a : Nat) : Int) := by unfold wrap64; omega
theorem encoded_f (r : Nat) (h : r < 1114112) : Pr.laws_encoded.f (r : Int) = some (encS r) := by
  have b1 : r / 64 < 9223372036854775808 := by omega
  have b2 : r / 4096 < 9223372036854775808 := by omega
  have b3 : r / 262144 < 9223372036854775808 := by omega
  have d2 : r % 64 < 64 := Nat.mod_lt _ (by decide)
  have d4 : r / 64 % 64 < 64 := Nat.mod_lt _ (by decide)
  have d5 : r / 4096 % 64 < 64 := Nat.mod_lt _ (by decide)
  unfold Pr.laws_encoded.f encS enc
  by_cases h1 : r < 128
  · have e : ((r : Int)) % 256 = ((r : Nat) : Int) := by omega
    rw [if_pos (by omega), if_pos h1, e]
    rfl
  · rw [if_neg (by omega), if_neg h1]
    by_cases h2 : r < 2048
    · have c1 : 192 + r / 64 < 256 := by omega
      rw [if_pos (by omega), if_pos h2]
      have x1 : (wrap64 (192 + wrap64 (Int.tdiv (r : Int) 64))) % 256 = ((192 + r / 64 : Nat) : Int) := by
        rw [show Int.tdiv (r : Int) 64 = ((r / 64 : Nat) : Int) from tdn r 64, w64n _ b1]; exact byte_of 192 (r / 64) c1
      have x2 : (wrap64 (128 + Int.tmod (r : Int) 64)) % 256 = ((128 + r % 64 : Nat) : Int) := by
        rw [show Int.tmod (r : Int) 64 = ((r % 64 : Nat) : Int) from tmn r 64]; exact byte_of 128 (r % 64) (by omega)
      rw [x1, x2]
      rfl
    · rw [if_neg (by omega), if_neg h2]
      have x2 : (wrap64 (128 + Int.tmod (r : Int) 64)) % 256 = ((128 + r % 64 : Nat) : Int) := by
        rw [show Int.tmod (r : Int) 64 = ((r % 64 : Nat) : Int) from tmn r 64]; exact byte_of 128 (r % 64) (Nat.lt_of_lt_of_le (Nat.add_lt_add_left d2 128) (by decide))
      have x4 : (wrap64 (128 + Int.tmod (wrap64 (Int.tdiv (r : Int) 64)) 64)) % 256 = ((128 + r / 64 % 64 : Nat) : Int) := by
        rw [show Int.tdiv (r : Int) 64 = ((r / 64 : Nat) : Int) from tdn r 64, w64n _ b1, show Int.tmod ((r / 64 : Nat) : Int) 64 = ((r / 64 % 64 : Nat) : Int) from tmn (r / 64) 64]; exact byte_of 128 (r / 64 % 64) (Nat.lt_of_lt_of_le (Nat.add_lt_add_left d4 128) (by decide))
      by_cases h3 : r < 65536
      · have x3 : (wrap64 (224 + wrap64 (Int.tdiv (r : Int) 4096))) % 256 = ((224 + r / 4096 : Nat) : Int) := by
          rw [show Int.tdiv (r : Int) 4096 = ((r / 4096 : Nat) : Int) from tdn r 4096, w64n _ b2]
          have : 224 + r / 4096 < 256 := by clear x2 x4; omega
          exact byte_of 224 (r / 4096) this
        rw [x2, x3, x4]
        rw [if_pos (by clear x2 x3 x4; omega), if_pos h3]
        rfl
      · have x3 : (wrap64 (240 + wrap64 (Int.tdiv (r : Int) 262144))) % 256 = ((240 + r / 262144 : Nat) : Int) := by
          rw [show Int.tdiv (r : Int) 262144 = ((r / 262144 : Nat) : Int) from tdn r 262144, w64n _ b3]
          have : 240 + r / 262144 < 256 := by clear x2 x4; omega
          exact byte_of 240 (r / 262144) this
        have x5 : (wrap64 (128 + Int.tmod (wrap64 (Int.tdiv (r : Int) 4096)) 64)) % 256 = ((128 + r / 4096 % 64 : Nat) : Int) := by
          rw [show Int.tdiv (r : Int) 4096 = ((r / 4096 : Nat) : Int) from tdn r 4096, w64n _ b2, show Int.tmod ((r / 4096 : Nat) : Int) 64 = ((r / 4096 % 64 : Nat) : Int) from tmn (r / 4096) 64]; exact byte_of 128 (r / 4096 % 64) (Nat.lt_of_lt_of_le (Nat.add_lt_add_left d5 128) (by decide))
        rw [x2, x3, x4, x5]
        rw [if_neg (by clear x2 x3 x4 x5; omega), if_neg h3]
        rfl

theorem get_bstr (l : List UInt8) (i : Nat) : (bstr l).get! i = l.getD i 0 := by
  unfold bstr ByteArray.get!
  simp [List.getD]
  rfl
theorem u8_ofNat (a : Nat) (h : a < 256) : (UInt8.ofNat a).toNat = a := by simp; omega
theorem decode_enc (r : Nat) (h : r < 1114112) (hs : r < 55296 ∨ 57343 < r) (h1 : 128 ≤ r) : Lib.decodeGo (encS r) = (r, (encS r).size) := by
  unfold Lib.decodeGo
  rw [Lib.decode_at]
  unfold encS
  simp only [get_bstr, bstr_size]
  by_cases h2 : r < 2048
  · have he : enc r = [192 + r / 64, 128 + r % 64] := by unfold enc; rw [if_neg (by omega), if_pos h2]
    rw [he]
    simp only [List.map_cons, List.map_nil, List.length_cons, List.length_nil, List.getD_cons_zero, List.getD_cons_succ, Nat.zero_add]
    rw [u8_ofNat _ (by omega), u8_ofNat _ (by omega), if_neg (by simp)]
    unfold Lib.decodeN
    rw [if_neg (by omega), if_pos (by omega), if_pos (by omega)]
    apply Prod.ext <;> simp only <;> omega
  · by_cases h3 : r < 65536
    · have he : enc r = [224 + r / 4096, 128 + r / 64 % 64, 128 + r % 64] := by unfold enc; rw [if_neg (by omega), if_neg h2, if_pos h3]
      rw [he]
      simp only [List.map_cons, List.map_nil, List.length_cons, List.length_nil, List.getD_cons_zero, List.getD_cons_succ, Nat.zero_add]
      rw [u8_ofNat _ (by omega), u8_ofNat _ (by omega), u8_ofNat _ (by omega), if_neg (by simp)]
      unfold Lib.decodeN
      rw [if_neg (by omega), if_neg (by omega), if_pos (by omega), if_pos (by omega)]
      apply Prod.ext <;> simp only <;> omega
    · have he : enc r = [240 + r / 262144, 128 + r / 4096 % 64, 128 + r / 64 % 64, 128 + r % 64] := by unfold enc; rw [if_neg (by omega), if_neg h2, if_neg h3]
      rw [he]
      simp only [List.map_cons, List.map_nil, List.length_cons, List.length_nil, List.getD_cons_zero, List.getD_cons_succ, Nat.zero_add]
      rw [u8_ofNat _ (by omega), u8_ofNat _ (by omega), u8_ofNat _ (by omega), u8_ofNat _ (by omega), if_neg (by simp)]
      unfold Lib.decodeN
      rw [if_neg (by omega), if_neg (by omega), if_neg (by omega), if_pos (by omega), if_pos (by omega)]
      apply Prod.ext <;> simp only <;> omega
end Go.Proofs.YtgpoplfgngiilaaGreatDoor
