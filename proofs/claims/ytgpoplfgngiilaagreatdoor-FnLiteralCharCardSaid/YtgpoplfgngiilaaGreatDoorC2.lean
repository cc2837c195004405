/- strconv.UnquoteChar at a byte by its number in base 8, and at a character that stands as it is. -/
import Derived.Test.YtgpoplfgngiilaaGreatDoorC1
import Derived.Deep.QuietTactic
import Derived.BigQuiet
namespace Go.Proofs.YtgpoplfgngiilaaGreatDoor
open Go.RowKit Go.Proofs.YtgpoplfgngiilaaGreatDoorW.PrintWords

set_option maxHeartbeats 2000000 in
set_option maxRecDepth 100000 in
theorem unq_oct_at (q : Nat) (hq : q = 0 ∨ q = 1 ∨ q = 2 ∨ q = 3) (s : ByteArray) (n : Nat) (w : World) (hn : n / 64 = q) (hs : s.size = 4) (h0 : (s[0]'(by omega)).toNat = 92) (h1 : (s[1]'(by omega)).toNat = 48 + q)
    (hd : ∀ (j : Nat) (hj : j < (s.extract 2 4).size), (((s.extract 2 4)[j]'hj).toNat : Int) = 48 + dig 8 n 3 (j + 1)) :
    Calls Tryz.prog 48 #[.string s, .int .u8 39] w (Unq n w) := by
  have H0 : ((s[0]'(by omega)).toNat : Int) = 92 := by omega
  have HD := Aside0.mk hd
  have he : (s.extract 2 4).size = 2 := by simp [ByteArray.size_extract]; omega
  have HE := Aside0.mk he
  have HN := Aside0.mk hn
  clear hd he hn
  rcases hq with rfl | rfl | rfl | rfl
  all_goals
    have H1 : ((s[1]'(by omega)).toNat : Int) = _ := congrArg Nat.cast h1
    simp only [Nat.reduceAdd, Int.cast_ofNat_Int] at H1
    clear h1
    go_enter Tryz.func48, Tryz.ntmps48
    go_wp2_with fail
    go_loopg [7, 17, 18] 2 (fun kq v7 v17 v18 w' => ∃ j : Nat, v7 = .nilIface ∧ v18 = .int .i64 j ∧ v17 = .int .i32 (pre 8 n 3 (j + 1)) ∧ Aside0 (j ≤ 2 ∧ kq = 2 - j) ∧ Aside0 (w = w'))
    case atStart =>
      have := HN.out
      exact ⟨0, rfl, rfl, by unfold pre; simp; omega, ⟨by omega⟩, ⟨rfl⟩⟩
    case round =>
      obtain ⟨j, rfl, rfl, rfl, HJ, HWE⟩ := hrel
      by_cases hlt : j < 2
      · have hb : decide ((j : Int) < 2) = true := by simp; omega
        obtain ⟨hp0, hp1⟩ := pre_le 8 n 3 (j + 1) (by omega)
        obtain ⟨hq0, hq1⟩ := dig_bd 8 n 3 (j + 1) (by decide)
        have HP := Aside0.mk (pre_step 8 n 3 (j + 1) (by omega))
        have hp2 : pre 8 n 3 (j + 1) ≤ 255 := by have := HN.out; omega
        have hbt := HD.out j (by have := HE.out; omega)
        go_wp2_with fail
        go_roundg (gk - 1)
        case measure => have := HJ.out; omega
        case rel => exact ⟨j + 1, rfl, by go_num, by rw [HP.out, show 48 + dig 8 n 3 (j + 1) - 48 = dig 8 n 3 (j + 1) by omega, or_join 3 _ _ (by omega) (by omega) (by omega) (by omega) (by omega) (by omega)]; rfl, ⟨by have := HJ.out; omega⟩, HWE⟩
      · have hb : decide ((j : Int) < 2) = false := by simp; omega
        obtain rfl : j = 2 := by have := HJ.out; omega
        rw [show 2 + 1 = 3 from rfl, pre_all]
        clear hlt
        obtain rfl := HWE.out
        have hn3 : (n : Int) ≤ 255 := by have := HN.out; omega
        go_wp2
        exact bodyPost_ret (v := .tuple #[.int .i32 n, .bool false, .string _, .nilIface]) (by simp [results, Tryz.results48, go_sem]; rfl) rfl ⟨_, _, rfl, Below.refl _ _⟩

theorem unq_oct (s : ByteArray) (n : Nat) (w : World) (hn : n < 256) (hs : s.size = 4) (h0 : (s[0]'(by omega)).toNat = 92) (h1 : (s[1]'(by omega)).toNat = 48 + n / 64)
    (hd : ∀ (j : Nat) (hj : j < (s.extract 2 4).size), (((s.extract 2 4)[j]'hj).toNat : Int) = 48 + dig 8 n 3 (j + 1)) :
    Calls Tryz.prog 48 #[.string s, .int .u8 39] w (Unq n w) :=
  unq_oct_at (n / 64) (by omega) s n w rfl hs h0 h1 hd

set_option maxHeartbeats 2000000 in
set_option maxRecDepth 100000 in
/-- A character of one byte that stands as it is. -/
theorem unq_plain (s : ByteArray) (n : Nat) (w : World) (hs : s.size = 1) (h0 : (s[0]'(by omega)).toNat = n) (hn : n < 128) (h1 : n ≠ 39) (h2 : n ≠ 92) :
    Calls Tryz.prog 48 #[.string s, .int .u8 39] w (Unq n w) := by
  have H0 : ((s[0]'(by omega)).toNat : Int) = (n : Int) := by omega
  have hn' : (n : Int) < 128 := by omega
  have e1 : ((n : Int) == 39) = false := by rw [beq_eq_false_iff_ne]; omega
  have e2 : ((n : Int) == 92) = false := by rw [beq_eq_false_iff_ne]; omega
  have e3 : ((n : Int) != 92) = true := by rw [bne_iff_ne]; omega
  clear h0 hn h1 h2
  go_enter Tryz.func48, Tryz.ntmps48
  go_wp2_with fail
  go_quiet (fail)
  go_wp2
  exact bodyPost_ret (v := .tuple #[.int .i32 n, .bool false, .string _, .nilIface]) (by simp [results, Tryz.results48, go_sem]; rfl) rfl ⟨_, _, rfl, by repeat (first | exact Below.refl _ _ | apply pw_below_drewN | apply below_drew1)⟩
end Go.Proofs.YtgpoplfgngiilaaGreatDoor
