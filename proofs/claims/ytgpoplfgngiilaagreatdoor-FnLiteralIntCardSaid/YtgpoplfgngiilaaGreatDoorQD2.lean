/- internal/strconv.ParseUint: the cases pu_o pu_O. -/
import Derived.Test.YtgpoplfgngiilaaGreatDoorQD
set_option linter.unusedVariables false
set_option linter.unusedSimpArgs false
namespace Go.Proofs.YtgpoplfgngiilaaGreatDoor
open Go.RowKit Go.Proofs.YtgpoplfgngiilaaGreatDoorW.PrintWords

set_option maxHeartbeats 8000000 in
set_option maxRecDepth 1000000 in
theorem pu_o (s : ByteArray) (w : World) (hs : 3 ≤ s.size) (hm : s.size ≤ 1000) (h0 : (s[0]'(by omega)).toNat = 48) (h1 : (s[1]'(by omega)).toNat = 111)
    (hB : Body 8 (s.extract 2 s.size).data.toList) (hU : 95 ∈ (s.extract 2 s.size).data.toList → ∀ W, Calls Tryz.prog 141 #[.string s] W fun e W1 => e = .returned (.bool true) ∧ W = W1) :
    Calls Tryz.prog 98 #[.string s, .int .i64 0, .int .i64 64] w (PU (pv 8 0 (s.extract 2 s.size).data.toList) w) := by
  have H0 : ((s[0]'(by omega)).toNat : Int) = 48 := by omega
  have H1 : ((s[1]'(by omega)).toNat : Int) = 111 := by omega
  have hl : bits .or .u8 111 32 = 111 := by decide
  have b1 : (bits .or .u8 111 32 == 98) = false := by decide
  have b2 : (bits .or .u8 111 32 == 111) = true := by decide
  have b3 : (bits .or .u8 111 32 == 120) = false := by decide
  obtain ⟨t, hT⟩ : ∃ t, t = (s.extract 2 s.size) := ⟨_, rfl⟩
  obtain ⟨cs, hL⟩ : ∃ cs, cs = t.data.toList := ⟨_, rfl⟩
  have hemp : s.toList.isEmpty = false := by
    rw [← decide_eq_emptyBytes]
    exact decide_eq_false (fun h => by rw [h] at hs; revert hs; decide)
  have hcv := Lib.run_convert_string_bytes (P := Tryz.prog) w 9 44 5 t (u := .string) Tryz.underlying9 Tryz.underlying44 Tryz.underlying5
  have hB2 : ∀ j, j < t.size → (Lib.bytesWorld w 5 t).cell? ⟨w.heap.size, j, none⟩ = some (.int .u8 (t.data.toList.getD j 0).toNat) := fun j hj => Lib.bytesWorld_cell w 5 t j hj
  have HBW := bytesWorld_below w 5 t
  obtain ⟨W1, hW1⟩ : ∃ W1, W1 = Lib.bytesWorld w 5 t := ⟨_, rfl⟩
  rw [← hW1] at hcv hB2 HBW
  clear hW1
  rw [← hT, ← hL] at hB hU ⊢
  rw [← hL] at hB2
  have hLn : cs.length = t.size := by rw [hL, Lib.size_eq]
  have htm : t.size ≤ 1000 := by rw [hT]; simp [ByteArray.size_extract]; omega
  obtain ⟨V, hV⟩ : ∃ V, V = pv 8 0 cs := ⟨_, rfl⟩
  have HV := hidm hV
  rw [← hV]
  have HB := hidm hB
  have HU := hidm hU
  clear hL hV hB hU h0 h1
  have hts : (s.extract 2 s.size).size = t.size := by rw [hT]
  rw [hT] at hcv
  have hmv : IntKind.u64.wrap (IntKind.u64.wrap 18446744073709551616 - 1) = 18446744073709551615 := by
    rw [IntKind.wrap_u64, IntKind.wrap_u64]
    decide
  have hct : IntKind.u64.wrap (IntKind.u64.wrap (18446744073709551615 / 8) + 1) = 2305843009213693952 := by
    rw [IntKind.wrap_u64, IntKind.wrap_u64]
    decide
  go_enter Tryz.func98, Tryz.ntmps98
  go_wp2_with (go_at_call 140; (refine (lower_calls _ _).mono ?_); rintro e w' ⟨rfl, rfl⟩)
  go_loop [12, 13, 101] (fun vu vn vi => PURel 8 t.size cs V vu vn vi)
    (fun _ _ vi => t.size - (intOf vi).toNat)
  case atStart => exact ⟨0, 0, 0, false, rfl, rfl, rfl, by omega, hidm ⟨rfl, by omega, HV.out.symm⟩, hidm (fun h => by cases h)⟩
  case round =>
    obtain ⟨k, acc, a, u, rfl, rfl, rfl, hk, hh, HU'⟩ := hrel
    obtain ⟨ha, hacc, hdec⟩ := hh.out
    clear hh
    have a0 : 0 ≤ a := by omega
    have a1 : a < 18446744073709551616 := by omega
    by_cases hkn : k < t.size
    · have hkl : k < cs.length := by omega
      have hc := hB2 k hkn
      have hget : cs.getD k 0 = cs[k]'hkl := by simp [List.getD, List.getElem?_eq_getElem hkl]
      rw [hget] at hc
      obtain ⟨c, hcc⟩ : ∃ c, cs[k]'hkl = c := ⟨_, rfl⟩
      rw [hcc] at hc
      have hcB := HB.out c (by rw [← hcc]; exact List.getElem_mem hkl)
      have hc256 : c.toNat < 256 := c.toNat_lt
      clear hB2 hget
      rcases hcB with h95 | ⟨hcls, hlt⟩
      · have hn := pu_skip hkl hdec (hcc.trans h95)
        have hmem : 95 ∈ cs := by rw [← h95, ← hcc]; exact List.getElem_mem hkl
        have HN : Hid (a = (acc : Int) ∧ acc < 18446744073709551616 ∧ pv 8 acc (cs.drop (k + 1)) = V) := hidm ⟨ha, hacc, hn⟩
        have HM := hidm (show true = true → 95 ∈ cs from fun _ => hmem)
        have h95' : (c.toNat : Int) = 95 := by rw [h95]; rfl
        clear hmem hn hdec hacc ha hcc h95
        go_wp2_with fail
        refine ⟨⟨k + 1, acc, a, true, rfl, rfl, (by first | rfl | (congr 1; omega)), by omega, HN, HM⟩, by simp [intOf]; omega⟩
      · have hpart : (48 ≤ c.toNat ∧ c.toNat ≤ 57) := by unfold Cls at hcls; omega
        have hdig := hpart
        clear hcls
        · obtain ⟨hd0, hd1⟩ := hdig
          
          have hdv : dval c = (c.toNat - 48) := by unfold dval; rw [if_pos (by omega)]
          have h95 : c ≠ 95 := u8_ne (by omega)
          have hdl : ((c.toNat : Int) - 48) < 8 := by omega
          by_cases hcut : 2305843009213693952 ≤ acc
          · have hF := pu_range (by decide) hkl hdec hcc h95 hdv (by omega)
            have icut : 2305843009213693952 ≤ a := by omega
            clear hcut hacc ha hdec hlt
            go_wp2_with fail
            go_ret2
            exact ⟨⟨fun h => absurd h (by omega), fun _ => rfl⟩, HBW⟩
          · by_cases hov : 18446744073709551616 ≤ acc * 8 + (c.toNat - 48)
            · exact absurd hov (by omega)
            · have HN : Hid (a * 8 + ((c.toNat : Int) - 48) = ((acc * 8 + (c.toNat - 48) : Nat) : Int) ∧ acc * 8 + (c.toNat - 48) < 18446744073709551616 ∧ pv 8 (acc * 8 + (c.toNat - 48)) (cs.drop (k + 1)) = V) := hidm ⟨by omega, by omega, pu_next hkl hdec hcc h95 hdv⟩
              have icut : a < 2305843009213693952 := by omega
              have iov : a * 8 + ((c.toNat : Int) - 48) < 18446744073709551616 := by omega
              clear hcut hacc hov hdec ha hlt
              go_wp2_with fail
              first | exact ⟨⟨k + 1, acc * 8 + (c.toNat - 48), a * 8 + ((c.toNat : Int) - 48), u, rfl, (by first | rfl | (congr 1; omega)), (by first | rfl | (congr 1; omega)), by omega, HN, HU'⟩, by simp [intOf]; omega⟩ | exact ⟨⟨_, _, _, _, _, _, _, _, ⟨k + 1, acc * 8 + (c.toNat - 48), a * 8 + ((c.toNat : Int) - 48), u, rfl, rfl, rfl, by omega, HN, HU'⟩, rfl, rfl, rfl, rfl, rfl, rfl, rfl, rfl⟩, by simp [intOf]; omega⟩
    · have hkk : k = t.size := by omega
      subst hkk
      have hF : V = acc := by rw [List.drop_eq_nil_of_le (by omega)] at hdec; exact hdec.symm
      have hV64 : V < 18446744073709551616 := by omega
      have haV : a = (V : Int) := by omega
      clear hF ha hacc hdec
      subst haV
      cases u with
      | false =>
        go_wp2_with fail
        go_ret2
        exact ⟨⟨fun _ => rfl, fun h => absurd h (by omega)⟩, HBW⟩
      | true =>
        have hcall := HU.out (HU'.out rfl)
        go_wp2_with (go_at_call 141; (refine (hcall _).mono ?_); rintro e w' ⟨rfl, rfl⟩)
        go_ret2
        exact ⟨⟨fun _ => rfl, fun h => absurd h (by omega)⟩, HBW⟩

set_option maxHeartbeats 8000000 in
set_option maxRecDepth 1000000 in
theorem pu_O (s : ByteArray) (w : World) (hs : 3 ≤ s.size) (hm : s.size ≤ 1000) (h0 : (s[0]'(by omega)).toNat = 48) (h1 : (s[1]'(by omega)).toNat = 79)
    (hB : Body 8 (s.extract 2 s.size).data.toList) (hU : 95 ∈ (s.extract 2 s.size).data.toList → ∀ W, Calls Tryz.prog 141 #[.string s] W fun e W1 => e = .returned (.bool true) ∧ W = W1) :
    Calls Tryz.prog 98 #[.string s, .int .i64 0, .int .i64 64] w (PU (pv 8 0 (s.extract 2 s.size).data.toList) w) := by
  have H0 : ((s[0]'(by omega)).toNat : Int) = 48 := by omega
  have H1 : ((s[1]'(by omega)).toNat : Int) = 79 := by omega
  have hl : bits .or .u8 79 32 = 111 := by decide
  have b1 : (bits .or .u8 79 32 == 98) = false := by decide
  have b2 : (bits .or .u8 79 32 == 111) = true := by decide
  have b3 : (bits .or .u8 79 32 == 120) = false := by decide
  obtain ⟨t, hT⟩ : ∃ t, t = (s.extract 2 s.size) := ⟨_, rfl⟩
  obtain ⟨cs, hL⟩ : ∃ cs, cs = t.data.toList := ⟨_, rfl⟩
  have hemp : s.toList.isEmpty = false := by
    rw [← decide_eq_emptyBytes]
    exact decide_eq_false (fun h => by rw [h] at hs; revert hs; decide)
  have hcv := Lib.run_convert_string_bytes (P := Tryz.prog) w 9 44 5 t (u := .string) Tryz.underlying9 Tryz.underlying44 Tryz.underlying5
  have hB2 : ∀ j, j < t.size → (Lib.bytesWorld w 5 t).cell? ⟨w.heap.size, j, none⟩ = some (.int .u8 (t.data.toList.getD j 0).toNat) := fun j hj => Lib.bytesWorld_cell w 5 t j hj
  have HBW := bytesWorld_below w 5 t
  obtain ⟨W1, hW1⟩ : ∃ W1, W1 = Lib.bytesWorld w 5 t := ⟨_, rfl⟩
  rw [← hW1] at hcv hB2 HBW
  clear hW1
  rw [← hT, ← hL] at hB hU ⊢
  rw [← hL] at hB2
  have hLn : cs.length = t.size := by rw [hL, Lib.size_eq]
  have htm : t.size ≤ 1000 := by rw [hT]; simp [ByteArray.size_extract]; omega
  obtain ⟨V, hV⟩ : ∃ V, V = pv 8 0 cs := ⟨_, rfl⟩
  have HV := hidm hV
  rw [← hV]
  have HB := hidm hB
  have HU := hidm hU
  clear hL hV hB hU h0 h1
  have hts : (s.extract 2 s.size).size = t.size := by rw [hT]
  rw [hT] at hcv
  have hmv : IntKind.u64.wrap (IntKind.u64.wrap 18446744073709551616 - 1) = 18446744073709551615 := by
    rw [IntKind.wrap_u64, IntKind.wrap_u64]
    decide
  have hct : IntKind.u64.wrap (IntKind.u64.wrap (18446744073709551615 / 8) + 1) = 2305843009213693952 := by
    rw [IntKind.wrap_u64, IntKind.wrap_u64]
    decide
  go_enter Tryz.func98, Tryz.ntmps98
  go_wp2_with (go_at_call 140; (refine (lower_calls _ _).mono ?_); rintro e w' ⟨rfl, rfl⟩)
  go_loop [12, 13, 101] (fun vu vn vi => PURel 8 t.size cs V vu vn vi)
    (fun _ _ vi => t.size - (intOf vi).toNat)
  case atStart => exact ⟨0, 0, 0, false, rfl, rfl, rfl, by omega, hidm ⟨rfl, by omega, HV.out.symm⟩, hidm (fun h => by cases h)⟩
  case round =>
    obtain ⟨k, acc, a, u, rfl, rfl, rfl, hk, hh, HU'⟩ := hrel
    obtain ⟨ha, hacc, hdec⟩ := hh.out
    clear hh
    have a0 : 0 ≤ a := by omega
    have a1 : a < 18446744073709551616 := by omega
    by_cases hkn : k < t.size
    · have hkl : k < cs.length := by omega
      have hc := hB2 k hkn
      have hget : cs.getD k 0 = cs[k]'hkl := by simp [List.getD, List.getElem?_eq_getElem hkl]
      rw [hget] at hc
      obtain ⟨c, hcc⟩ : ∃ c, cs[k]'hkl = c := ⟨_, rfl⟩
      rw [hcc] at hc
      have hcB := HB.out c (by rw [← hcc]; exact List.getElem_mem hkl)
      have hc256 : c.toNat < 256 := c.toNat_lt
      clear hB2 hget
      rcases hcB with h95 | ⟨hcls, hlt⟩
      · have hn := pu_skip hkl hdec (hcc.trans h95)
        have hmem : 95 ∈ cs := by rw [← h95, ← hcc]; exact List.getElem_mem hkl
        have HN : Hid (a = (acc : Int) ∧ acc < 18446744073709551616 ∧ pv 8 acc (cs.drop (k + 1)) = V) := hidm ⟨ha, hacc, hn⟩
        have HM := hidm (show true = true → 95 ∈ cs from fun _ => hmem)
        have h95' : (c.toNat : Int) = 95 := by rw [h95]; rfl
        clear hmem hn hdec hacc ha hcc h95
        go_wp2_with fail
        refine ⟨⟨k + 1, acc, a, true, rfl, rfl, (by first | rfl | (congr 1; omega)), by omega, HN, HM⟩, by simp [intOf]; omega⟩
      · have hpart : (48 ≤ c.toNat ∧ c.toNat ≤ 57) := by unfold Cls at hcls; omega
        have hdig := hpart
        clear hcls
        · obtain ⟨hd0, hd1⟩ := hdig
          
          have hdv : dval c = (c.toNat - 48) := by unfold dval; rw [if_pos (by omega)]
          have h95 : c ≠ 95 := u8_ne (by omega)
          have hdl : ((c.toNat : Int) - 48) < 8 := by omega
          by_cases hcut : 2305843009213693952 ≤ acc
          · have hF := pu_range (by decide) hkl hdec hcc h95 hdv (by omega)
            have icut : 2305843009213693952 ≤ a := by omega
            clear hcut hacc ha hdec hlt
            go_wp2_with fail
            go_ret2
            exact ⟨⟨fun h => absurd h (by omega), fun _ => rfl⟩, HBW⟩
          · by_cases hov : 18446744073709551616 ≤ acc * 8 + (c.toNat - 48)
            · exact absurd hov (by omega)
            · have HN : Hid (a * 8 + ((c.toNat : Int) - 48) = ((acc * 8 + (c.toNat - 48) : Nat) : Int) ∧ acc * 8 + (c.toNat - 48) < 18446744073709551616 ∧ pv 8 (acc * 8 + (c.toNat - 48)) (cs.drop (k + 1)) = V) := hidm ⟨by omega, by omega, pu_next hkl hdec hcc h95 hdv⟩
              have icut : a < 2305843009213693952 := by omega
              have iov : a * 8 + ((c.toNat : Int) - 48) < 18446744073709551616 := by omega
              clear hcut hacc hov hdec ha hlt
              go_wp2_with fail
              first | exact ⟨⟨k + 1, acc * 8 + (c.toNat - 48), a * 8 + ((c.toNat : Int) - 48), u, rfl, (by first | rfl | (congr 1; omega)), (by first | rfl | (congr 1; omega)), by omega, HN, HU'⟩, by simp [intOf]; omega⟩ | exact ⟨⟨_, _, _, _, _, _, _, _, ⟨k + 1, acc * 8 + (c.toNat - 48), a * 8 + ((c.toNat : Int) - 48), u, rfl, rfl, rfl, by omega, HN, HU'⟩, rfl, rfl, rfl, rfl, rfl, rfl, rfl, rfl⟩, by simp [intOf]; omega⟩
    · have hkk : k = t.size := by omega
      subst hkk
      have hF : V = acc := by rw [List.drop_eq_nil_of_le (by omega)] at hdec; exact hdec.symm
      have hV64 : V < 18446744073709551616 := by omega
      have haV : a = (V : Int) := by omega
      clear hF ha hacc hdec
      subst haV
      cases u with
      | false =>
        go_wp2_with fail
        go_ret2
        exact ⟨⟨fun _ => rfl, fun h => absurd h (by omega)⟩, HBW⟩
      | true =>
        have hcall := HU.out (HU'.out rfl)
        go_wp2_with (go_at_call 141; (refine (hcall _).mono ?_); rintro e w' ⟨rfl, rfl⟩)
        go_ret2
        exact ⟨⟨fun _ => rfl, fun h => absurd h (by omega)⟩, HBW⟩

end Go.Proofs.YtgpoplfgngiilaaGreatDoor
/- internal/strconv.ParseUint: the cases pu_X. -/
namespace Go.Proofs.YtgpoplfgngiilaaGreatDoor
open Go.RowKit Go.Proofs.YtgpoplfgngiilaaGreatDoorW.PrintWords

set_option maxHeartbeats 8000000 in
set_option maxRecDepth 1000000 in
theorem pu_X (s : ByteArray) (w : World) (hs : 3 ≤ s.size) (hm : s.size ≤ 1000) (h0 : (s[0]'(by omega)).toNat = 48) (h1 : (s[1]'(by omega)).toNat = 88)
    (hB : Body 16 (s.extract 2 s.size).data.toList) (hU : 95 ∈ (s.extract 2 s.size).data.toList → ∀ W, Calls Tryz.prog 141 #[.string s] W fun e W1 => e = .returned (.bool true) ∧ W = W1) :
    Calls Tryz.prog 98 #[.string s, .int .i64 0, .int .i64 64] w (PU (pv 16 0 (s.extract 2 s.size).data.toList) w) := by
  have H0 : ((s[0]'(by omega)).toNat : Int) = 48 := by omega
  have H1 : ((s[1]'(by omega)).toNat : Int) = 88 := by omega
  have hl : bits .or .u8 88 32 = 120 := by decide
  have b1 : (bits .or .u8 88 32 == 98) = false := by decide
  have b2 : (bits .or .u8 88 32 == 111) = false := by decide
  have b3 : (bits .or .u8 88 32 == 120) = true := by decide
  obtain ⟨t, hT⟩ : ∃ t, t = (s.extract 2 s.size) := ⟨_, rfl⟩
  obtain ⟨cs, hL⟩ : ∃ cs, cs = t.data.toList := ⟨_, rfl⟩
  have hemp : s.toList.isEmpty = false := by
    rw [← decide_eq_emptyBytes]
    exact decide_eq_false (fun h => by rw [h] at hs; revert hs; decide)
  have hcv := Lib.run_convert_string_bytes (P := Tryz.prog) w 9 44 5 t (u := .string) Tryz.underlying9 Tryz.underlying44 Tryz.underlying5
  have hB2 : ∀ j, j < t.size → (Lib.bytesWorld w 5 t).cell? ⟨w.heap.size, j, none⟩ = some (.int .u8 (t.data.toList.getD j 0).toNat) := fun j hj => Lib.bytesWorld_cell w 5 t j hj
  have HBW := bytesWorld_below w 5 t
  obtain ⟨W1, hW1⟩ : ∃ W1, W1 = Lib.bytesWorld w 5 t := ⟨_, rfl⟩
  rw [← hW1] at hcv hB2 HBW
  clear hW1
  rw [← hT, ← hL] at hB hU ⊢
  rw [← hL] at hB2
  have hLn : cs.length = t.size := by rw [hL, Lib.size_eq]
  have htm : t.size ≤ 1000 := by rw [hT]; simp [ByteArray.size_extract]; omega
  obtain ⟨V, hV⟩ : ∃ V, V = pv 16 0 cs := ⟨_, rfl⟩
  have HV := hidm hV
  rw [← hV]
  have HB := hidm hB
  have HU := hidm hU
  clear hL hV hB hU h0 h1
  have hts : (s.extract 2 s.size).size = t.size := by rw [hT]
  rw [hT] at hcv
  have hmv : IntKind.u64.wrap (IntKind.u64.wrap 18446744073709551616 - 1) = 18446744073709551615 := by
    rw [IntKind.wrap_u64, IntKind.wrap_u64]
    decide
  have hct : IntKind.u64.wrap (IntKind.u64.wrap (18446744073709551615 / 16) + 1) = 1152921504606846976 := by
    rw [IntKind.wrap_u64, IntKind.wrap_u64]
    decide
  go_enter Tryz.func98, Tryz.ntmps98
  go_wp2_with (go_at_call 140; (refine (lower_calls _ _).mono ?_); rintro e w' ⟨rfl, rfl⟩)
  go_loop [12, 13, 101] (fun vu vn vi => PURel 16 t.size cs V vu vn vi)
    (fun _ _ vi => t.size - (intOf vi).toNat)
  case atStart => exact ⟨0, 0, 0, false, rfl, rfl, rfl, by omega, hidm ⟨rfl, by omega, HV.out.symm⟩, hidm (fun h => by cases h)⟩
  case round =>
    obtain ⟨k, acc, a, u, rfl, rfl, rfl, hk, hh, HU'⟩ := hrel
    obtain ⟨ha, hacc, hdec⟩ := hh.out
    clear hh
    have a0 : 0 ≤ a := by omega
    have a1 : a < 18446744073709551616 := by omega
    by_cases hkn : k < t.size
    · have hkl : k < cs.length := by omega
      have hc := hB2 k hkn
      have hget : cs.getD k 0 = cs[k]'hkl := by simp [List.getD, List.getElem?_eq_getElem hkl]
      rw [hget] at hc
      obtain ⟨c, hcc⟩ : ∃ c, cs[k]'hkl = c := ⟨_, rfl⟩
      rw [hcc] at hc
      have hcB := HB.out c (by rw [← hcc]; exact List.getElem_mem hkl)
      have hc256 : c.toNat < 256 := c.toNat_lt
      clear hB2 hget
      rcases hcB with h95 | ⟨hcls, hlt⟩
      · have hn := pu_skip hkl hdec (hcc.trans h95)
        have hmem : 95 ∈ cs := by rw [← h95, ← hcc]; exact List.getElem_mem hkl
        have HN : Hid (a = (acc : Int) ∧ acc < 18446744073709551616 ∧ pv 16 acc (cs.drop (k + 1)) = V) := hidm ⟨ha, hacc, hn⟩
        have HM := hidm (show true = true → 95 ∈ cs from fun _ => hmem)
        have h95' : (c.toNat : Int) = 95 := by rw [h95]; rfl
        clear hmem hn hdec hacc ha hcc h95
        go_wp2_with fail
        refine ⟨⟨k + 1, acc, a, true, rfl, rfl, (by first | rfl | (congr 1; omega)), by omega, HN, HM⟩, by simp [intOf]; omega⟩
      · have hpart : (48 ≤ c.toNat ∧ c.toNat ≤ 57)∨(97 ≤ c.toNat ∧ c.toNat ≤ 102)∨(65 ≤ c.toNat ∧ c.toNat ≤ 70) := by unfold Cls at hcls; omega
        rcases hpart with hdig | hdig | hdig
        clear hcls
        · obtain ⟨hd0, hd1⟩ := hdig
          
          have hdv : dval c = (c.toNat - 48) := by unfold dval; rw [if_pos (by omega)]
          have h95 : c ≠ 95 := u8_ne (by omega)
          have hdl : ((c.toNat : Int) - 48) < 16 := by omega
          by_cases hcut : 1152921504606846976 ≤ acc
          · have hF := pu_range (by decide) hkl hdec hcc h95 hdv (by omega)
            have icut : 1152921504606846976 ≤ a := by omega
            clear hcut hacc ha hdec hlt
            go_wp2_with fail
            go_ret2
            exact ⟨⟨fun h => absurd h (by omega), fun _ => rfl⟩, HBW⟩
          · by_cases hov : 18446744073709551616 ≤ acc * 16 + (c.toNat - 48)
            · exact absurd hov (by omega)
            · have HN : Hid (a * 16 + ((c.toNat : Int) - 48) = ((acc * 16 + (c.toNat - 48) : Nat) : Int) ∧ acc * 16 + (c.toNat - 48) < 18446744073709551616 ∧ pv 16 (acc * 16 + (c.toNat - 48)) (cs.drop (k + 1)) = V) := hidm ⟨by omega, by omega, pu_next hkl hdec hcc h95 hdv⟩
              have icut : a < 1152921504606846976 := by omega
              have iov : a * 16 + ((c.toNat : Int) - 48) < 18446744073709551616 := by omega
              clear hcut hacc hov hdec ha hlt
              go_wp2_with fail
              first | exact ⟨⟨k + 1, acc * 16 + (c.toNat - 48), a * 16 + ((c.toNat : Int) - 48), u, rfl, (by first | rfl | (congr 1; omega)), (by first | rfl | (congr 1; omega)), by omega, HN, HU'⟩, by simp [intOf]; omega⟩ | exact ⟨⟨_, _, _, _, _, _, _, _, ⟨k + 1, acc * 16 + (c.toNat - 48), a * 16 + ((c.toNat : Int) - 48), u, rfl, rfl, rfl, by omega, HN, HU'⟩, rfl, rfl, rfl, rfl, rfl, rfl, rfl, rfl⟩, by simp [intOf]; omega⟩
        · obtain ⟨hd0, hd1⟩ := hdig
          have hor := or_low (c.toNat : Int) (by omega) (by omega)
          have hdv : dval c = (c.toNat - 87) := by unfold dval; rw [if_neg (by omega), if_neg (by omega)]
          have h95 : c ≠ 95 := u8_ne (by omega)
          have hdl : ((c.toNat : Int) - 87) < 16 := by omega
          by_cases hcut : 1152921504606846976 ≤ acc
          · have hF := pu_range (by decide) hkl hdec hcc h95 hdv (by omega)
            have icut : 1152921504606846976 ≤ a := by omega
            clear hcut hacc ha hdec hlt
            go_wp2_with (go_at_call 140; (refine (lower_calls _ _).mono ?_); rintro e w' ⟨rfl, rfl⟩)
            go_ret2
            exact ⟨⟨fun h => absurd h (by omega), fun _ => rfl⟩, HBW⟩
          · by_cases hov : 18446744073709551616 ≤ acc * 16 + (c.toNat - 87)
            · exact absurd hov (by omega)
            · have HN : Hid (a * 16 + ((c.toNat : Int) - 87) = ((acc * 16 + (c.toNat - 87) : Nat) : Int) ∧ acc * 16 + (c.toNat - 87) < 18446744073709551616 ∧ pv 16 (acc * 16 + (c.toNat - 87)) (cs.drop (k + 1)) = V) := hidm ⟨by omega, by omega, pu_next hkl hdec hcc h95 hdv⟩
              have icut : a < 1152921504606846976 := by omega
              have iov : a * 16 + ((c.toNat : Int) - 87) < 18446744073709551616 := by omega
              clear hcut hacc hov hdec ha hlt
              go_wp2_with (go_at_call 140; (refine (lower_calls _ _).mono ?_); rintro e w' ⟨rfl, rfl⟩)
              first | exact ⟨⟨k + 1, acc * 16 + (c.toNat - 87), a * 16 + ((c.toNat : Int) - 87), u, rfl, (by first | rfl | (congr 1; omega)), (by first | rfl | (congr 1; omega)), by omega, HN, HU'⟩, by simp [intOf]; omega⟩ | exact ⟨⟨_, _, _, _, _, _, _, _, ⟨k + 1, acc * 16 + (c.toNat - 87), a * 16 + ((c.toNat : Int) - 87), u, rfl, rfl, rfl, by omega, HN, HU'⟩, rfl, rfl, rfl, rfl, rfl, rfl, rfl, rfl⟩, by simp [intOf]; omega⟩
        · obtain ⟨hd0, hd1⟩ := hdig
          have hor := or_high (c.toNat : Int) (by omega) (by omega)
          have hdv : dval c = (c.toNat - 55) := by unfold dval; rw [if_neg (by omega), if_pos (by omega)]
          have h95 : c ≠ 95 := u8_ne (by omega)
          have hdl : ((c.toNat : Int) - 55) < 16 := by omega
          by_cases hcut : 1152921504606846976 ≤ acc
          · have hF := pu_range (by decide) hkl hdec hcc h95 hdv (by omega)
            have icut : 1152921504606846976 ≤ a := by omega
            clear hcut hacc ha hdec hlt
            go_wp2_with (go_at_call 140; (refine (lower_calls _ _).mono ?_); rintro e w' ⟨rfl, rfl⟩)
            go_ret2
            exact ⟨⟨fun h => absurd h (by omega), fun _ => rfl⟩, HBW⟩
          · by_cases hov : 18446744073709551616 ≤ acc * 16 + (c.toNat - 55)
            · exact absurd hov (by omega)
            · have HN : Hid (a * 16 + ((c.toNat : Int) - 55) = ((acc * 16 + (c.toNat - 55) : Nat) : Int) ∧ acc * 16 + (c.toNat - 55) < 18446744073709551616 ∧ pv 16 (acc * 16 + (c.toNat - 55)) (cs.drop (k + 1)) = V) := hidm ⟨by omega, by omega, pu_next hkl hdec hcc h95 hdv⟩
              have icut : a < 1152921504606846976 := by omega
              have iov : a * 16 + ((c.toNat : Int) - 55) < 18446744073709551616 := by omega
              clear hcut hacc hov hdec ha hlt
              go_wp2_with (go_at_call 140; (refine (lower_calls _ _).mono ?_); rintro e w' ⟨rfl, rfl⟩)
              first | exact ⟨⟨k + 1, acc * 16 + (c.toNat - 55), a * 16 + ((c.toNat : Int) - 55), u, rfl, (by first | rfl | (congr 1; omega)), (by first | rfl | (congr 1; omega)), by omega, HN, HU'⟩, by simp [intOf]; omega⟩ | exact ⟨⟨_, _, _, _, _, _, _, _, ⟨k + 1, acc * 16 + (c.toNat - 55), a * 16 + ((c.toNat : Int) - 55), u, rfl, rfl, rfl, by omega, HN, HU'⟩, rfl, rfl, rfl, rfl, rfl, rfl, rfl, rfl⟩, by simp [intOf]; omega⟩
    · have hkk : k = t.size := by omega
      subst hkk
      have hF : V = acc := by rw [List.drop_eq_nil_of_le (by omega)] at hdec; exact hdec.symm
      have hV64 : V < 18446744073709551616 := by omega
      have haV : a = (V : Int) := by omega
      clear hF ha hacc hdec
      subst haV
      cases u with
      | false =>
        go_wp2_with fail
        go_ret2
        exact ⟨⟨fun _ => rfl, fun h => absurd h (by omega)⟩, HBW⟩
      | true =>
        have hcall := HU.out (HU'.out rfl)
        go_wp2_with (go_at_call 141; (refine (hcall _).mono ?_); rintro e w' ⟨rfl, rfl⟩)
        go_ret2
        exact ⟨⟨fun _ => rfl, fun h => absurd h (by omega)⟩, HBW⟩

end Go.Proofs.YtgpoplfgngiilaaGreatDoor
