/- FnLiteralChar at every argument. -/
import Derived.Test.YtgpoplfgngiilaaGreatDoorC6
namespace Go.Proofs.YtgpoplfgngiilaaGreatDoor
open Go.RowKit Go.Proofs.YtgpoplfgngiilaaGreatDoorW.PrintWords Go.Proofs.YtgpoplfgngiilaaGreatDoorW.PrintLast Go.Proofs.YtgpoplfgngiilaaGreatDoorW.PrintMore

theorem letter_hexb (d : Nat) (h : d < 16) : ((letter false d).toNat : Int) = hexb d := by
  have : d = 0 ∨ d = 1 ∨ d = 2 ∨ d = 3 ∨ d = 4 ∨ d = 5 ∨ d = 6 ∨ d = 7 ∨ d = 8 ∨ d = 9 ∨ d = 10 ∨ d = 11 ∨ d = 12 ∨ d = 13 ∨ d = 14 ∨ d = 15 := by omega
  rcases this with rfl | rfl | rfl | rfl | rfl | rfl | rfl | rfl | rfl | rfl | rfl | rfl | rfl | rfl | rfl | rfl <;> rfl

theorem tabs_below {w W : World} (hT : Lib.Utf8Tabs 6 7 w) (hB : Below w.heap.size w W) : Lib.Utf8Tabs 6 7 W := by
  refine ⟨fun c hc => ?_, fun i hi => ⟨?_, ?_⟩⟩
  · exact (hB.cell (World.block_lt_of_cell? w _ (hT.1 c hc))).trans (hT.1 c hc)
  · exact (hB.cell (World.block_lt_of_cell? w _ (hT.2 i hi).1)).trans (hT.2 i hi).1
  · exact (hB.cell (World.block_lt_of_cell? w _ (hT.2 i hi).2)).trans (hT.2 i hi).2

theorem reads_enc (r : Nat) (w : World) (hr : r < 1114112) (hs : r < 55296 ∨ 57343 < r) (h39 : r ≠ 39) (h92 : r ≠ 92) (hT : Lib.Utf8Tabs 6 7 w) : ReadsAs w (encS r) r := by
  have h4 := encS_size r
  refine ⟨by omega, hr, fun W hW => ?_⟩
  by_cases h : r < 128
  · have he : encS r = bstr [UInt8.ofNat r] := by unfold encS enc; rw [if_pos h]; rfl
    rw [he]
    refine unq_plain _ r W (bstr_size _) ?_ h h39 h92
    rw [bstr_get]
    exact u8_ofNat r (by omega)
  · have hsz : 0 < (encS r).size := by
      unfold encS; rw [bstr_size, List.length_map]; unfold enc
      repeat' split
      all_goals simp
    refine unq_utf8 _ r W (tabs_below hT hW) hsz ?_ (decode_enc r hr hs (by omega)) (by omega)
    have hg : ∀ (h0 : 0 < (encS r).size), 128 ≤ ((encS r)[0]'h0).toNat := by
      unfold encS
      intro h0
      rw [bstr_get]
      have e : ∃ x y, enc r = x :: y ∧ 128 ≤ x ∧ x < 256 := by
        unfold enc
        rw [if_neg h]
        by_cases h2 : r < 2048
        · rw [if_pos h2]; exact ⟨_, _, rfl, by omega, by omega⟩
        · rw [if_neg h2]
          by_cases h3 : r < 65536
          · rw [if_pos h3]; exact ⟨_, _, rfl, by omega, by omega⟩
          · rw [if_neg h3]; exact ⟨_, _, rfl, by omega, by omega⟩
      obtain ⟨x, y, e, hx, hx2⟩ := e
      have : ((enc r).map UInt8.ofNat)[0]? = some (UInt8.ofNat x) := by rw [e]; rfl
      rw [(List.getElem_eq_iff _).2 this, u8_ofNat x hx2]
      exact hx
    exact hg hsz

theorem figs_extract (c : UInt8) (f q : Nat) (m : Nat) (hm : m = 2 + f) : (bstr ([92, c] ++ (figs 16 f q).map (letter false))).extract 2 m = bstr ((figs 16 f q).map (letter false)) :=
  bstr_extract [92, c] _ 2 m rfl (by rw [List.length_map, figs_length, hm]; rfl)
theorem figs_byte (f q j : Nat) (hj : j < (bstr ((figs 16 f q).map (letter false))).size) : (((bstr ((figs 16 f q).map (letter false)))[j]'hj).toNat : Int) = hexb (dig 16 q f j) := by
  have hj' : j < f := by rw [bstr_size, List.length_map, figs_length] at hj; exact hj
  rw [bstr_get]
  have : ((figs 16 f q).map (letter false))[j]? = some (letter false (q / 16 ^ (f - 1 - j) % 16)) := by rw [List.getElem?_map, figs_get 16 f q j hj']; rfl
  rw [(List.getElem_eq_iff _).2 this, letter_hexb _ (Nat.mod_lt _ (by decide))]
  rfl
theorem hexS_size (c : UInt8) (f q : Nat) : (bstr ([92, c] ++ (figs 16 f q).map (letter false))).size = f + 2 := by
  rw [bstr_size, List.length_append, List.length_map, figs_length]; exact Nat.add_comm _ _
theorem hexS_eq (c : UInt8) (f q : Nat) : (⟨#[92, c]⟩ : ByteArray) ++ bstr ((figs 16 f q).map (letter false)) = bstr ([92, c] ++ (figs 16 f q).map (letter false)) := bstr_append [92, c] _

theorem reads_x (q : Nat) (w : World) (hq : q < 256) : ReadsAs w (⟨#[92, 120]⟩ ++ bstr ((figs 16 2 q).map (letter false))) q := by
  rw [hexS_eq]
  refine ⟨by rw [hexS_size]; decide, by omega, fun W _ => ?_⟩
  refine unq_x _ q W hq (hexS_size 120 2 q) rfl rfl ?_
  rw [figs_extract 120 2 q 4 rfl]
  exact figs_byte 2 q
theorem reads_u (q : Nat) (w : World) (hq : q < 65536) (hv : q < 55296 ∨ 57343 < q) : ReadsAs w (⟨#[92, 117]⟩ ++ bstr ((figs 16 4 q).map (letter false))) q := by
  rw [hexS_eq]
  refine ⟨by rw [hexS_size]; decide, by omega, fun W _ => ?_⟩
  refine unq_u _ q W hq hv (hexS_size 117 4 q) rfl rfl ?_
  rw [figs_extract 117 4 q 6 rfl]
  exact figs_byte 4 q
theorem reads_U (q : Nat) (w : World) (hq : q < 1114112) (hv : q < 55296 ∨ 57343 < q) : ReadsAs w (⟨#[92, 85]⟩ ++ bstr ((figs 16 8 q).map (letter false))) q := by
  rw [hexS_eq]
  refine ⟨by rw [hexS_size]; decide, by omega, fun W _ => ?_⟩
  refine unq_U _ q W hq hv (hexS_size 85 8 q) rfl rfl ?_
  rw [figs_extract 85 8 q 10 rfl]
  exact figs_byte 8 q
theorem octS_eq (q : Nat) : (⟨#[92]⟩ : ByteArray) ++ octS q = bstr [92, UInt8.ofNat (48 + q / 64), UInt8.ofNat (48 + q / 8 % 8), UInt8.ofNat (48 + q % 8)] := by
  have e : octS q = bstr [UInt8.ofNat (48 + q / 64), UInt8.ofNat (48 + q / 8 % 8), UInt8.ofNat (48 + q % 8)] := by
    unfold octS strOfNums bstr
    have a1 : (48 + (q : Int) / 64).toNat = 48 + q / 64 := by omega
    have a2 : (48 + (q : Int) / 8 % 8).toNat = 48 + q / 8 % 8 := by omega
    have a3 : (48 + (q : Int) % 8).toNat = 48 + q % 8 := by omega
    simp only [List.map_cons, List.map_nil, a1, a2, a3]
  rw [e]
  exact bstr_append [92] _
theorem reads_oct (q : Nat) (w : World) (hq : q < 256) : ReadsAs w (⟨#[92]⟩ ++ octS q) q := by
  rw [octS_eq]
  refine ⟨by rw [bstr_size]; simp, by omega, fun W _ => ?_⟩
  refine unq_oct _ q W hq (bstr_size _) rfl ?_ ?_
  · exact u8_ofNat (48 + q / 64) (by omega)
  · have e : (bstr [92, UInt8.ofNat (48 + q / 64), UInt8.ofNat (48 + q / 8 % 8), UInt8.ofNat (48 + q % 8)]).extract 2 4 = bstr [UInt8.ofNat (48 + q / 8 % 8), UInt8.ofNat (48 + q % 8)] :=
      bstr_extract [92, UInt8.ofNat (48 + q / 64)] [UInt8.ofNat (48 + q / 8 % 8), UInt8.ofNat (48 + q % 8)] 2 4 rfl rfl
    rw [e]
    intro j hj
    rw [bstr_get]
    rw [bstr_size] at hj
    have : j = 0 ∨ j = 1 := by simp at hj; omega
    rcases this with rfl | rfl
    · show ((UInt8.ofNat (48 + q / 8 % 8)).toNat : Int) = _
      rw [u8_ofNat _ (by omega)]
      unfold dig
      simp
    · show ((UInt8.ofNat (48 + q % 8)).toNat : Int) = _
      rw [u8_ofNat _ (by omega)]
      unfold dig
      simp

set_option maxHeartbeats 2000000 in
set_option maxRecDepth 1000000 in
theorem char_sur (n form : Int) (r : Nat) (w : World) (hn : 0 ≤ n) (hrem : n % 1114112 = (r : Int)) (hs : decide (55296 ≤ (r : Int)) = true) (hs2 : decide ((r : Int) < 57344) = true) (hr : (r : Int) ≤ 1114111) :
    Calls Tryz.prog 4 #[.int .u32 n, .int .u8 form] w fun e w' => e = .returned (.bool true) ∧ Below w.heap.size w w' := by
  go_enter Tryz.func4, Tryz.ntmps4
  go_wp2
  go_ret
  exact ⟨rfl, Below.refl _ _⟩

set_option maxHeartbeats 2000000 in
set_option maxRecDepth 1000000 in
theorem char_0_skip (n form : Int) (r : Nat) (w : World) (hn : 0 ≤ n) (hrem : n % 1114112 = (r : Int)) (hr : (r : Int) ≤ 1114111) (hf0 : 0 ≤ form) (hf1 : form ≤ 255) (hf : form % 5 = 0) (hs : decide (55296 ≤ (r : Int)) = false)
    (h : ((r : Int) == 39) = true ∨ (((r : Int) == 39) = false ∧ ((r : Int) == 92) = true) ∨ (((r : Int) == 39) = false ∧ ((r : Int) == 92) = false ∧ ((r : Int) == 10) = true)) :
    Calls Tryz.prog 4 #[.int .u32 n, .int .u8 form] w fun e w' => e = .returned (.bool true) ∧ Below w.heap.size w w' := by
  rcases h with h | ⟨h, h2⟩ | ⟨h, h2, h3⟩
  all_goals
    go_enter Tryz.func4, Tryz.ntmps4
    go_wp2
    go_ret
    exact ⟨rfl, Below.refl _ _⟩

set_option maxHeartbeats 2000000 in
set_option maxRecDepth 1000000 in
theorem char_3_skip (n form : Int) (r : Nat) (w : World) (hn : 0 ≤ n) (hrem : n % 1114112 = (r : Int)) (hr : (r : Int) ≤ 1114111) (hf0 : 0 ≤ form) (hf1 : form ≤ 255) (hf : form % 5 = 3) (hs : decide (55296 ≤ (r : Int)) = true) (hs2 : decide ((r : Int) < 57344) = false) (h3 : 65535 < (r : Int)) :
    Calls Tryz.prog 4 #[.int .u32 n, .int .u8 form] w fun e w' => e = .returned (.bool true) ∧ Below w.heap.size w w' := by
  go_enter Tryz.func4, Tryz.ntmps4
  go_wp2
  go_ret
  exact ⟨rfl, Below.refl _ _⟩

/-- FnLiteralChar returns true at every argument. -/
theorem char_any (n form : Int) (w : World) (hT : Lib.Utf8Tabs 6 7 w) (hn0 : 0 ≤ n) (hf0 : 0 ≤ form) (hf1 : form ≤ 255) :
    Calls Tryz.prog 4 #[.int .u32 n, .int .u8 form] w fun e w' => e = .returned (.bool true) ∧ Below w.heap.size w w' := by
  obtain ⟨r, hr⟩ : ∃ r : Nat, n % 1114112 = (r : Int) := ⟨(n % 1114112).toNat, by omega⟩
  have hr1 : (r : Int) ≤ 1114111 := by omega
  by_cases hsur : 55296 ≤ r ∧ r < 57344
  · exact char_sur n form r w hn0 hr (by simp; omega) (by simp; omega) hr1
  have hs : decide (55296 ≤ (r : Int)) = false ∨ (decide (55296 ≤ (r : Int)) = true ∧ decide ((r : Int) < 57344) = false) := by
    by_cases h : 55296 ≤ r
    · right; exact ⟨by simp; omega, by simp; omega⟩
    · left; simp; omega
  have hv : r < 55296 ∨ 57343 < r := by omega
  obtain ⟨q, hq⟩ : ∃ q : Nat, (r : Int) % 256 = (q : Int) := ⟨r % 256, by omega⟩
  have hq1 : (q : Int) ≤ 255 := by omega
  have hf5 : form % 5 = 0 ∨ form % 5 = 1 ∨ form % 5 = 2 ∨ form % 5 = 3 ∨ form % 5 = 4 := by omega
  rcases hf5 with hf | hf | hf | hf | hf
  · by_cases h39 : r = 39
    · exact char_0_skip n form r w hn0 hr hr1 hf0 hf1 hf (by simp; omega) (Or.inl (by simp; omega))
    · have e39 : ((r : Int) == 39) = false := by rw [beq_eq_false_iff_ne]; omega
      by_cases h92 : r = 92
      · exact char_0_skip n form r w hn0 hr hr1 hf0 hf1 hf (by simp; omega) (Or.inr (Or.inl ⟨e39, by simp; omega⟩))
      · have e92 : ((r : Int) == 92) = false := by rw [beq_eq_false_iff_ne]; omega
        by_cases h10 : r = 10
        · exact char_0_skip n form r w hn0 hr hr1 hf0 hf1 hf (by simp; omega) (Or.inr (Or.inr ⟨e39, e92, by simp; omega⟩))
        · exact char_0 n form r w hn0 hr hr1 hf0 hf1 hf hs e39 e92 (by rw [beq_eq_false_iff_ne]; omega) (reads_enc r w (by omega) hv h39 h92 hT)
  · exact char_1 n form r w hn0 hr hr1 hf0 hf1 hf hs q hq hq1 (reads_x q w (by omega))
  · exact char_2 n form r w hn0 hr hr1 hf0 hf1 hf hs q hq hq1 (reads_oct q w (by omega))
  · by_cases h3 : r ≤ 65535
    · exact char_3 n form r w hn0 hr hr1 hf0 hf1 hf hs (by omega) (reads_u r w (by omega) hv)
    · exact char_3_skip n form r w hn0 hr hr1 hf0 hf1 hf (by simp; omega) (by simp; omega) (by omega)
  · exact char_4 n form r w hn0 hr hr1 hf0 hf1 hf hs (reads_U r w (by omega) hv)
end Go.Proofs.YtgpoplfgngiilaaGreatDoor
