/- bigall's nat.scan at figures of base 2 or 16: the cases nscan_X. -/
import Derived.Test.YtgpoplfgngiilaaGreatDoorQB
import Derived.Test.YtgpoplfgngiilaaGreatDoorQS4
import Derived.Outline
set_option linter.unusedVariables false
set_option linter.unusedSimpArgs false
namespace Go.Proofs.YtgpoplfgngiilaaGreatDoor
open Go.RowKit Go.Proofs.YtgpoplfgngiilaaGreatDoorW.PrintWords
attribute [local go_sem] me_read me_unread

set_option maxHeartbeats 4000000 in
set_option maxRecDepth 1000000 in
theorem nscan_X (s : ByteArray) (r : Nat) (te : TypeId) (pe : Value) (w : World) (hs : 2 < s.size) (hs2 : s.size ≤ 1000) (h0 : (s[0]'(by omega)).toNat = 48) (h1 : (s[1]'(by omega)).toNat = 88) (hr : Rd w r s 0)
    (hE : w.cell? ⟨1, 0, none⟩ = some (.iface te pe)) (hr1 : r ≠ 1) (hq : ∀ W, (binOp .eql 85 (.iface te pe) (.iface te pe)).run Tryz.prog W = .ok (.bool true) W)
    (cs : List UInt8) (hcs : cs = (s.extract 2 s.size).data.toList) (hB : Body 16 cs) (hU : ∀ (j : Nat) (hj : j < cs.length), cs[j]'hj = 95 → 1 ≤ j ∧ j + 1 < cs.length ∧ cs[j - 1]? ≠ some 95) (hV0 : 0 < pv 16 0 cs) :
    Calls Tryz.prog 109 #[.slice none 0 0, .iface 133 (.pointer (some ⟨r, 0, none⟩)), .int .i64 0, .bool false] w fun e w' =>
      ∃ (v : Value) (bb cnt : Int), e = .returned (.tuple #[v, .int .i64 bb, .int .i64 cnt, .nilIface]) ∧ NV w.heap.size w' v (lits 18446744073709551616 (pv 16 0 cs)) ∧ Rd w' r s s.size ∧ Fr (fun k => k = r) w w' := by
  have H0 : ((s[0]'(by omega)).toNat : Int) = 48 := by omega
  have H1 : ((s[1]'(by omega)).toNat : Int) = 88 := by omega
  have HR := Aside0.mk hr
  have HF := Aside0.mk (And.intro hE (And.intro hr1 (And.intro hB (And.intro hU hV0))))
  have hcl : cs.length = s.size - 2 := by rw [hcs, Lib.size_eq]; simp [ByteArray.size_extract]
  have HC := Aside0.mk (And.intro hcs hcl)
  clear hr hE hr1 hB hU hV0 hcs hcl h0 h1
  go_enter Tryz.func109, Tryz.ntmps109
  go_wp2_with (first | (go_at_call 110; (refine (readByte_in r s 2 (by omega) (by omega) _ HR2.out).mono ?_); rintro e w3 ⟨rfl, hr3, hf3⟩; have HR3 := Aside0.mk hr3; have HF3 := Aside0.mk hf3; clear hr3 hf3) | (go_at_call 110; (refine (readByte_in r s 1 (by omega) (by omega) _ HR1.out).mono ?_); rintro e w2 ⟨rfl, hr2, hf2⟩; have HR2 := Aside0.mk hr2; have HF2 := Aside0.mk hf2; clear hr2 hf2) | (go_at_call 110; (refine (readByte_in r s 0 (by omega) (by omega) _ HR.out).mono ?_); rintro e w1 ⟨rfl, hr1, hf1⟩; have HR1 := Aside0.mk hr1; have HF1 := Aside0.mk hf1; clear hr1 hf1))
  go_loopg [0, 3, 10, 11, 13, 14, 15, 20, 21, 22] (s.size - 2) (fun kq v0 v3 v10 v11 v13 v14 v15 v20 v21 v22 w' => SRelB s r w.heap.size 2 16 16 48 te pe cs w kq v0 v3 v10 v11 v13 v14 v15 v20 v21 v22 w')
  case atStart =>
    refine ⟨_, [], 0, 0, 0, 0, _, _, _, _, rfl, rfl, rfl, rfl, rfl, rfl, rfl, rfl, rfl, rfl, ⟨by omega, by omega, by omega, by omega, by omega, by decide, rfl, rfl, by simp, by omega⟩, ⟨rfl⟩, ⟨Or.inl ⟨rfl, rfl⟩, fun _ h => by cases h⟩, ⟨Or.inl ⟨by omega, rfl, rfl, HR3.out⟩⟩, ⟨(HF1.out.trans HF2.out).trans HF3.out⟩⟩
  case round =>
    obtain ⟨v0, zs, k, d, i, cnt, er, ch, pr, D, rfl, rfl, rfl, rfl, rfl, rfl, rfl, rfl, rfl, rfl, HI, HP, HN, HS, HW⟩ := hrel
    have HB := Aside0.mk (Rd.lt HR.out)
    by_cases hk : 2 + k < s.size
    · obtain ⟨hj, hcj⟩ := ext_get s 2 k hk cs HC.out.1
      have hst := HS.out.resolve_right (fun h => by omega)
      obtain ⟨_, rfl, hch, hrd⟩ := hst
      have HRd := Aside0.mk hrd
      have hcls0 := HF.out.2.2.1 (cs[k]'hj) (List.getElem_mem hj)
      clear hrd
      rcases hcls0 with h95 | ⟨hcls, hlt⟩
      · have hu := HF.out.2.2.2.1 k hj h95
        have hpr : pr = 48 := by have := HP.out; rw [if_neg (by omega), if_neg hu.2.2] at this; exact this
        have hnx : 2 + k + 1 < s.size := by have := HC.out.2; omega
        have hch95 : ch = 95 := by rw [hch, ← hcj, h95]; rfl
        have HQ := Aside0.mk (And.intro (pv_take_us (b := 16) hj h95) (show cs[k + 1 - 1]? = some 95 by rw [Nat.add_sub_cancel, List.getElem?_eq_getElem hj, h95]))
        have HK := Aside0.mk (show 0 < k by omega)
        subst hpr
        subst hch95
        clear hu h95 hch hcj hj
        go_wp2_with (go_at_call 110; go_must (refine (readByte_in r s (2 + k + 1) hnx (by omega) _ HRd.out).mono ?_); rintro e w1 ⟨rfl, hr1, hf1⟩; have HR1' := Aside0.mk hr1; have HF1' := Aside0.mk hf1; clear hr1 hf1)
        go_roundg (gk - 1)
        case measure => have := HI.out; omega
        case rel =>
          have hB := HB.out
          obtain ⟨hi1, hi2, hi3, hi4, hi5, hi6, hi7, hi8, hi9, hi10⟩ := HI.out
          exact ⟨_, zs, k + 1, d, i, cnt, _, _, 95, D, rfl, rfl, rfl, rfl, rfl, rfl, rfl, rfl, rfl, rfl, ⟨by omega, by omega, by omega, fun _ => hi4 HK.out, hi5, hi6, hi7.trans HQ.out.1.symm, hi8, by omega, fun _ => hi10 HK.out⟩,
            ⟨by rw [if_neg (by omega), if_pos HQ.out.2]⟩, ⟨HN.out.1.fr HF1'.out (fun k hk => by omega), HN.out.2⟩, ⟨Or.inl ⟨hnx, rfl, by first | rfl | simp, HR1'.out⟩⟩, ⟨HW.out.trans HF1'.out⟩⟩
      · obtain ⟨x, hx⟩ : ∃ x, dval (cs[k]'hj) = x := ⟨_, rfl⟩
        rw [hx] at hlt hcls
        rw [hcj, ← hch] at hcls
        have h95 : cs[k]'hj ≠ 95 := fun h => by
          have h2 : ch = 95 := by rw [hch, ← hcj, h]; rfl
          unfold Cls at hcls
          omega
        have hns : cs[k + 1 - 1]? ≠ some 95 := by rw [Nat.add_sub_cancel, List.getElem?_eq_getElem hj]; exact fun h => h95 (Option.some.inj h)
        obtain ⟨hi1, hi2, hi3, hi4, hi5, hi6, hi7, hi8, hi9, hi10⟩ := HI.out
        have hP := (pv_take_dig (b := 16) hj h95)
        rw [hx] at hP
        have hsum := scan_dig hi7 hP
        have hbd := dig_bound hi6 hlt
        have hbn : 16 ^ (i + 1) ≤ 16 ^ 16 := Nat.pow_le_pow_right (by decide) (by omega)
        have hbd' : d * 16 + x < 18446744073709551616 := Nat.lt_of_lt_of_le hbd hbn
        have hcnt : cnt ≤ 1000 := by have := HB.out; omega
        have hD0 : 0 ≤ D := by omega
        clear hP
        unfold Cls at hcls
        rcases hcls with ⟨hc0, hc1, hcx⟩ | ⟨hc0, hc1, hcx⟩ | ⟨hc0, hc1, hcx⟩
        · have hE : D * 16 + (ch - 48) = ((d * 16 + x : Nat) : Int) := by omega
          have hcb : (ch - 48) < 16 := by omega
          have hD1 : D * 16 + (ch - 48) < 16 ^ 16 := by omega
          have HQ := Aside0.mk (And.intro hns (And.intro hsum (And.intro hbd (And.intro hE (And.intro hi3 (And.intro hi4 (And.intro hi9 hi10)))))))
          clear hns hbd hbn hx h95 hch hcj hj hi3 hi4 hi6 hi7 hi8 hi9 hi10 hcx hlt
          by_cases hfull : i + 1 = 16
          · obtain rfl : i = 15 := by omega
            have hzl : zs.length ≤ 100000 := by have := HQ.out.2.2.2.2.2.2.1; have := HB.out; omega
            have HSM := Aside0.mk (scanb_full (n := 15) (D := D * 16 + (ch - 48)) (by decide) hsum HN.out.2 hbd' hE)
            clear hsum hE
            by_cases hnx : 2 + k + 1 < s.size
            · go_wp2_with (first | ((with_reducible refine gate_builtin (b := .append) (xs := #[.tmp 193, .tmp 195]) rfl ?_); at_builtin; refine wpList_append_NV _ rfl (.tmp 193) (.tmp 195) rfl w.heap.size v0 zs (D * 16 + (ch - 48)) _ _ rfl rfl ?aV ?aY ⟨by omega, by omega⟩ hzl (by have := HW.out.size; simp only [World.size_alloc]; omega) HN.out.2 ?_; (case aV => exact HN.out.1.fr ((Fr.refl (fun _ => False) _).alloc _) (fun _ h => h.elim)); (case aY => go_simp); intro v' w2 hn2 hb2; have HN2 := Aside0.mk hn2; have HBm := Aside0.mk (((Below.refl w.heap.size _).alloc HW.out.size _).trans hb2); clear hn2 hb2) | (go_at_call 110; go_must (refine (readByte_in r s (2 + k + 1) hnx (by omega) _ (HRd.out.below HBm.out HB.out)).mono ?_); rintro e w1 ⟨rfl, hr1, hf1⟩; have HR1' := Aside0.mk hr1; have HF1' := Aside0.mk hf1; clear hr1 hf1))
              go_roundg (gk - 1)
              case measure => omega
              case rel =>
                have hB := HB.out
                exact ⟨_, zs ++ [D * 16 + (ch - 48)], k + 1, 0, 0, cnt + 1, _, _, 48, 0, rfl, rfl, rfl, rfl, by go_num, rfl, rfl, rfl, rfl, rfl, ⟨by omega, by omega, by have := HQ.out; omega, fun _ => by omega, by omega, by decide, HSM.out.1, rfl, by have := HQ.out; simp only [List.length_append, List.length_singleton]; omega, fun _ => by simp⟩,
                  ⟨by rw [if_neg (by omega), if_neg HQ.out.1]⟩, ⟨HN2.out.fr HF1'.out (fun k hk => by omega), HSM.out.2⟩, ⟨Or.inl ⟨hnx, rfl, by first | rfl | simp, HR1'.out⟩⟩, ⟨(HW.out.call (Fr.of_below' HBm.out) (fun k hk => Or.inr hk)).trans HF1'.out⟩⟩
            · go_wp2_with (first | ((with_reducible refine gate_builtin (b := .append) (xs := #[.tmp 193, .tmp 195]) rfl ?_); at_builtin; refine wpList_append_NV _ rfl (.tmp 193) (.tmp 195) rfl w.heap.size v0 zs (D * 16 + (ch - 48)) _ _ rfl rfl ?aV ?aY ⟨by omega, by omega⟩ hzl (by have := HW.out.size; simp only [World.size_alloc]; omega) HN.out.2 ?_; (case aV => exact HN.out.1.fr ((Fr.refl (fun _ => False) _).alloc _) (fun _ h => h.elim)); (case aY => go_simp); intro v' w2 hn2 hb2; have HN2 := Aside0.mk hn2; have HBm := Aside0.mk (((Below.refl w.heap.size _).alloc HW.out.size _).trans hb2); clear hn2 hb2) | (go_at_call 110; go_must (refine (readByte_end r s (2 + k + 1) (by omega) _ (.iface te pe) (HRd.out.below HBm.out HB.out) (by first | exact HW.out.cellv HF.out.1 (fun h => HF.out.2.1 h.symm) | exact (HBm.out.cell (p := ⟨1, 0, none⟩) (World.block_lt_of_cell? w _ HF.out.1)).trans (HW.out.cellv HF.out.1 (fun h => HF.out.2.1 h.symm)))).mono ?_); rintro e w1 ⟨rfl, hr1, hf1⟩; have HR1' := Aside0.mk hr1; have HF1' := Aside0.mk hf1; clear hr1 hf1))
              go_roundg (gk - 1)
              case measure => omega
              case rel =>
                have hB := HB.out
                exact ⟨_, zs ++ [D * 16 + (ch - 48)], k + 1, 0, 0, cnt + 1, _, _, 48, 0, rfl, rfl, rfl, rfl, by go_num, rfl, rfl, rfl, rfl, rfl, ⟨by omega, by omega, by have := HQ.out; omega, fun _ => by omega, by omega, by decide, HSM.out.1, rfl, by have := HQ.out; simp only [List.length_append, List.length_singleton]; omega, fun _ => by simp⟩,
                  ⟨by rw [if_neg (by omega), if_neg HQ.out.1]⟩, ⟨HN2.out.fr HF1'.out (fun k hk => by omega), HSM.out.2⟩, ⟨Or.inr ⟨by omega, rfl, by have := HR1'.out; rwa [show 2 + k + 1 = s.size by omega] at this⟩⟩, ⟨(HW.out.call (Fr.of_below' HBm.out) (fun k hk => Or.inr hk)).trans HF1'.out⟩⟩
          · have hib : (((i : Int) + 1) == 16) = false := beq_false_of_ne (by omega)
            have HSM := Aside0.mk hsum
            clear hsum hE
            by_cases hnx : 2 + k + 1 < s.size
            · go_wp2_with (go_at_call 110; go_must (refine (readByte_in r s (2 + k + 1) hnx (by omega) _ HRd.out).mono ?_); rintro e w1 ⟨rfl, hr1, hf1⟩; have HR1' := Aside0.mk hr1; have HF1' := Aside0.mk hf1; clear hr1 hf1)
              go_roundg (gk - 1)
              case measure => omega
              case rel =>
                have hB := HB.out
                exact ⟨_, zs, k + 1, d * 16 + x, i + 1, cnt + 1, _, _, 48, _, rfl, rfl, rfl, rfl, by go_num, rfl, rfl, rfl, rfl, by go_num, ⟨by omega, by omega, by have := HQ.out; omega, fun _ => by omega, by omega, HQ.out.2.2.1, HSM.out, HQ.out.2.2.2.1, by have := HQ.out; omega, fun _ => by omega⟩,
                  ⟨by rw [if_neg (by omega), if_neg HQ.out.1]⟩, ⟨HN.out.1.fr HF1'.out (fun k hk => by omega), HN.out.2⟩, ⟨Or.inl ⟨hnx, rfl, by first | rfl | simp, HR1'.out⟩⟩, ⟨HW.out.trans HF1'.out⟩⟩
            · go_wp2_with (go_at_call 110; go_must (refine (readByte_end r s (2 + k + 1) (by omega) _ (.iface te pe) HRd.out (by first | exact HW.out.cellv HF.out.1 (fun h => HF.out.2.1 h.symm) | exact (HBm.out.cell (p := ⟨1, 0, none⟩) (World.block_lt_of_cell? w _ HF.out.1)).trans (HW.out.cellv HF.out.1 (fun h => HF.out.2.1 h.symm)))).mono ?_); rintro e w1 ⟨rfl, hr1, hf1⟩; have HR1' := Aside0.mk hr1; have HF1' := Aside0.mk hf1; clear hr1 hf1)
              go_roundg (gk - 1)
              case measure => omega
              case rel =>
                have hB := HB.out
                exact ⟨_, zs, k + 1, d * 16 + x, i + 1, cnt + 1, _, _, 48, _, rfl, rfl, rfl, rfl, by go_num, rfl, rfl, rfl, rfl, by go_num, ⟨by omega, by omega, by have := HQ.out; omega, fun _ => by omega, by omega, HQ.out.2.2.1, HSM.out, HQ.out.2.2.2.1, by have := HQ.out; omega, fun _ => by omega⟩,
                  ⟨by rw [if_neg (by omega), if_neg HQ.out.1]⟩, ⟨HN.out.1.fr HF1'.out (fun k hk => by omega), HN.out.2⟩, ⟨Or.inr ⟨by omega, rfl, by have := HR1'.out; rwa [show 2 + k + 1 = s.size by omega] at this⟩⟩, ⟨HW.out.trans HF1'.out⟩⟩
        · have hE : D * 16 + (ch - 97 + 10) = ((d * 16 + x : Nat) : Int) := by omega
          have hcb : (ch - 97 + 10) < 16 := by omega
          have hD1 : D * 16 + (ch - 97 + 10) < 16 ^ 16 := by omega
          have HQ := Aside0.mk (And.intro hns (And.intro hsum (And.intro hbd (And.intro hE (And.intro hi3 (And.intro hi4 (And.intro hi9 hi10)))))))
          clear hns hbd hbn hx h95 hch hcj hj hi3 hi4 hi6 hi7 hi8 hi9 hi10 hcx hlt
          by_cases hfull : i + 1 = 16
          · obtain rfl : i = 15 := by omega
            have hzl : zs.length ≤ 100000 := by have := HQ.out.2.2.2.2.2.2.1; have := HB.out; omega
            have HSM := Aside0.mk (scanb_full (n := 15) (D := D * 16 + (ch - 97 + 10)) (by decide) hsum HN.out.2 hbd' hE)
            clear hsum hE
            by_cases hnx : 2 + k + 1 < s.size
            · go_wp2_with (first | ((with_reducible refine gate_builtin (b := .append) (xs := #[.tmp 193, .tmp 195]) rfl ?_); at_builtin; refine wpList_append_NV _ rfl (.tmp 193) (.tmp 195) rfl w.heap.size v0 zs (D * 16 + (ch - 97 + 10)) _ _ rfl rfl ?aV ?aY ⟨by omega, by omega⟩ hzl (by have := HW.out.size; simp only [World.size_alloc]; omega) HN.out.2 ?_; (case aV => exact HN.out.1.fr ((Fr.refl (fun _ => False) _).alloc _) (fun _ h => h.elim)); (case aY => go_simp); intro v' w2 hn2 hb2; have HN2 := Aside0.mk hn2; have HBm := Aside0.mk (((Below.refl w.heap.size _).alloc HW.out.size _).trans hb2); clear hn2 hb2) | (go_at_call 110; go_must (refine (readByte_in r s (2 + k + 1) hnx (by omega) _ (HRd.out.below HBm.out HB.out)).mono ?_); rintro e w1 ⟨rfl, hr1, hf1⟩; have HR1' := Aside0.mk hr1; have HF1' := Aside0.mk hf1; clear hr1 hf1))
              go_roundg (gk - 1)
              case measure => omega
              case rel =>
                have hB := HB.out
                exact ⟨_, zs ++ [D * 16 + (ch - 97 + 10)], k + 1, 0, 0, cnt + 1, _, _, 48, 0, rfl, rfl, rfl, rfl, by go_num, rfl, rfl, rfl, rfl, rfl, ⟨by omega, by omega, by have := HQ.out; omega, fun _ => by omega, by omega, by decide, HSM.out.1, rfl, by have := HQ.out; simp only [List.length_append, List.length_singleton]; omega, fun _ => by simp⟩,
                  ⟨by rw [if_neg (by omega), if_neg HQ.out.1]⟩, ⟨HN2.out.fr HF1'.out (fun k hk => by omega), HSM.out.2⟩, ⟨Or.inl ⟨hnx, rfl, by first | rfl | simp, HR1'.out⟩⟩, ⟨(HW.out.call (Fr.of_below' HBm.out) (fun k hk => Or.inr hk)).trans HF1'.out⟩⟩
            · go_wp2_with (first | ((with_reducible refine gate_builtin (b := .append) (xs := #[.tmp 193, .tmp 195]) rfl ?_); at_builtin; refine wpList_append_NV _ rfl (.tmp 193) (.tmp 195) rfl w.heap.size v0 zs (D * 16 + (ch - 97 + 10)) _ _ rfl rfl ?aV ?aY ⟨by omega, by omega⟩ hzl (by have := HW.out.size; simp only [World.size_alloc]; omega) HN.out.2 ?_; (case aV => exact HN.out.1.fr ((Fr.refl (fun _ => False) _).alloc _) (fun _ h => h.elim)); (case aY => go_simp); intro v' w2 hn2 hb2; have HN2 := Aside0.mk hn2; have HBm := Aside0.mk (((Below.refl w.heap.size _).alloc HW.out.size _).trans hb2); clear hn2 hb2) | (go_at_call 110; go_must (refine (readByte_end r s (2 + k + 1) (by omega) _ (.iface te pe) (HRd.out.below HBm.out HB.out) (by first | exact HW.out.cellv HF.out.1 (fun h => HF.out.2.1 h.symm) | exact (HBm.out.cell (p := ⟨1, 0, none⟩) (World.block_lt_of_cell? w _ HF.out.1)).trans (HW.out.cellv HF.out.1 (fun h => HF.out.2.1 h.symm)))).mono ?_); rintro e w1 ⟨rfl, hr1, hf1⟩; have HR1' := Aside0.mk hr1; have HF1' := Aside0.mk hf1; clear hr1 hf1))
              go_roundg (gk - 1)
              case measure => omega
              case rel =>
                have hB := HB.out
                exact ⟨_, zs ++ [D * 16 + (ch - 97 + 10)], k + 1, 0, 0, cnt + 1, _, _, 48, 0, rfl, rfl, rfl, rfl, by go_num, rfl, rfl, rfl, rfl, rfl, ⟨by omega, by omega, by have := HQ.out; omega, fun _ => by omega, by omega, by decide, HSM.out.1, rfl, by have := HQ.out; simp only [List.length_append, List.length_singleton]; omega, fun _ => by simp⟩,
                  ⟨by rw [if_neg (by omega), if_neg HQ.out.1]⟩, ⟨HN2.out.fr HF1'.out (fun k hk => by omega), HSM.out.2⟩, ⟨Or.inr ⟨by omega, rfl, by have := HR1'.out; rwa [show 2 + k + 1 = s.size by omega] at this⟩⟩, ⟨(HW.out.call (Fr.of_below' HBm.out) (fun k hk => Or.inr hk)).trans HF1'.out⟩⟩
          · have hib : (((i : Int) + 1) == 16) = false := beq_false_of_ne (by omega)
            have HSM := Aside0.mk hsum
            clear hsum hE
            by_cases hnx : 2 + k + 1 < s.size
            · go_wp2_with (go_at_call 110; go_must (refine (readByte_in r s (2 + k + 1) hnx (by omega) _ HRd.out).mono ?_); rintro e w1 ⟨rfl, hr1, hf1⟩; have HR1' := Aside0.mk hr1; have HF1' := Aside0.mk hf1; clear hr1 hf1)
              go_roundg (gk - 1)
              case measure => omega
              case rel =>
                have hB := HB.out
                exact ⟨_, zs, k + 1, d * 16 + x, i + 1, cnt + 1, _, _, 48, _, rfl, rfl, rfl, rfl, by go_num, rfl, rfl, rfl, rfl, by go_num, ⟨by omega, by omega, by have := HQ.out; omega, fun _ => by omega, by omega, HQ.out.2.2.1, HSM.out, HQ.out.2.2.2.1, by have := HQ.out; omega, fun _ => by omega⟩,
                  ⟨by rw [if_neg (by omega), if_neg HQ.out.1]⟩, ⟨HN.out.1.fr HF1'.out (fun k hk => by omega), HN.out.2⟩, ⟨Or.inl ⟨hnx, rfl, by first | rfl | simp, HR1'.out⟩⟩, ⟨HW.out.trans HF1'.out⟩⟩
            · go_wp2_with (go_at_call 110; go_must (refine (readByte_end r s (2 + k + 1) (by omega) _ (.iface te pe) HRd.out (by first | exact HW.out.cellv HF.out.1 (fun h => HF.out.2.1 h.symm) | exact (HBm.out.cell (p := ⟨1, 0, none⟩) (World.block_lt_of_cell? w _ HF.out.1)).trans (HW.out.cellv HF.out.1 (fun h => HF.out.2.1 h.symm)))).mono ?_); rintro e w1 ⟨rfl, hr1, hf1⟩; have HR1' := Aside0.mk hr1; have HF1' := Aside0.mk hf1; clear hr1 hf1)
              go_roundg (gk - 1)
              case measure => omega
              case rel =>
                have hB := HB.out
                exact ⟨_, zs, k + 1, d * 16 + x, i + 1, cnt + 1, _, _, 48, _, rfl, rfl, rfl, rfl, by go_num, rfl, rfl, rfl, rfl, by go_num, ⟨by omega, by omega, by have := HQ.out; omega, fun _ => by omega, by omega, HQ.out.2.2.1, HSM.out, HQ.out.2.2.2.1, by have := HQ.out; omega, fun _ => by omega⟩,
                  ⟨by rw [if_neg (by omega), if_neg HQ.out.1]⟩, ⟨HN.out.1.fr HF1'.out (fun k hk => by omega), HN.out.2⟩, ⟨Or.inr ⟨by omega, rfl, by have := HR1'.out; rwa [show 2 + k + 1 = s.size by omega] at this⟩⟩, ⟨HW.out.trans HF1'.out⟩⟩
        · have hE : D * 16 + (ch - 65 + 10) = ((d * 16 + x : Nat) : Int) := by omega
          have hcb : (ch - 65 + 10) < 16 := by omega
          have hD1 : D * 16 + (ch - 65 + 10) < 16 ^ 16 := by omega
          have HQ := Aside0.mk (And.intro hns (And.intro hsum (And.intro hbd (And.intro hE (And.intro hi3 (And.intro hi4 (And.intro hi9 hi10)))))))
          clear hns hbd hbn hx h95 hch hcj hj hi3 hi4 hi6 hi7 hi8 hi9 hi10 hcx hlt
          by_cases hfull : i + 1 = 16
          · obtain rfl : i = 15 := by omega
            have hzl : zs.length ≤ 100000 := by have := HQ.out.2.2.2.2.2.2.1; have := HB.out; omega
            have HSM := Aside0.mk (scanb_full (n := 15) (D := D * 16 + (ch - 65 + 10)) (by decide) hsum HN.out.2 hbd' hE)
            clear hsum hE
            by_cases hnx : 2 + k + 1 < s.size
            · go_wp2_with (first | ((with_reducible refine gate_builtin (b := .append) (xs := #[.tmp 193, .tmp 195]) rfl ?_); at_builtin; refine wpList_append_NV _ rfl (.tmp 193) (.tmp 195) rfl w.heap.size v0 zs (D * 16 + (ch - 65 + 10)) _ _ rfl rfl ?aV ?aY ⟨by omega, by omega⟩ hzl (by have := HW.out.size; simp only [World.size_alloc]; omega) HN.out.2 ?_; (case aV => exact HN.out.1.fr ((Fr.refl (fun _ => False) _).alloc _) (fun _ h => h.elim)); (case aY => go_simp); intro v' w2 hn2 hb2; have HN2 := Aside0.mk hn2; have HBm := Aside0.mk (((Below.refl w.heap.size _).alloc HW.out.size _).trans hb2); clear hn2 hb2) | (go_at_call 110; go_must (refine (readByte_in r s (2 + k + 1) hnx (by omega) _ (HRd.out.below HBm.out HB.out)).mono ?_); rintro e w1 ⟨rfl, hr1, hf1⟩; have HR1' := Aside0.mk hr1; have HF1' := Aside0.mk hf1; clear hr1 hf1))
              go_roundg (gk - 1)
              case measure => omega
              case rel =>
                have hB := HB.out
                exact ⟨_, zs ++ [D * 16 + (ch - 65 + 10)], k + 1, 0, 0, cnt + 1, _, _, 48, 0, rfl, rfl, rfl, rfl, by go_num, rfl, rfl, rfl, rfl, rfl, ⟨by omega, by omega, by have := HQ.out; omega, fun _ => by omega, by omega, by decide, HSM.out.1, rfl, by have := HQ.out; simp only [List.length_append, List.length_singleton]; omega, fun _ => by simp⟩,
                  ⟨by rw [if_neg (by omega), if_neg HQ.out.1]⟩, ⟨HN2.out.fr HF1'.out (fun k hk => by omega), HSM.out.2⟩, ⟨Or.inl ⟨hnx, rfl, by first | rfl | simp, HR1'.out⟩⟩, ⟨(HW.out.call (Fr.of_below' HBm.out) (fun k hk => Or.inr hk)).trans HF1'.out⟩⟩
            · go_wp2_with (first | ((with_reducible refine gate_builtin (b := .append) (xs := #[.tmp 193, .tmp 195]) rfl ?_); at_builtin; refine wpList_append_NV _ rfl (.tmp 193) (.tmp 195) rfl w.heap.size v0 zs (D * 16 + (ch - 65 + 10)) _ _ rfl rfl ?aV ?aY ⟨by omega, by omega⟩ hzl (by have := HW.out.size; simp only [World.size_alloc]; omega) HN.out.2 ?_; (case aV => exact HN.out.1.fr ((Fr.refl (fun _ => False) _).alloc _) (fun _ h => h.elim)); (case aY => go_simp); intro v' w2 hn2 hb2; have HN2 := Aside0.mk hn2; have HBm := Aside0.mk (((Below.refl w.heap.size _).alloc HW.out.size _).trans hb2); clear hn2 hb2) | (go_at_call 110; go_must (refine (readByte_end r s (2 + k + 1) (by omega) _ (.iface te pe) (HRd.out.below HBm.out HB.out) (by first | exact HW.out.cellv HF.out.1 (fun h => HF.out.2.1 h.symm) | exact (HBm.out.cell (p := ⟨1, 0, none⟩) (World.block_lt_of_cell? w _ HF.out.1)).trans (HW.out.cellv HF.out.1 (fun h => HF.out.2.1 h.symm)))).mono ?_); rintro e w1 ⟨rfl, hr1, hf1⟩; have HR1' := Aside0.mk hr1; have HF1' := Aside0.mk hf1; clear hr1 hf1))
              go_roundg (gk - 1)
              case measure => omega
              case rel =>
                have hB := HB.out
                exact ⟨_, zs ++ [D * 16 + (ch - 65 + 10)], k + 1, 0, 0, cnt + 1, _, _, 48, 0, rfl, rfl, rfl, rfl, by go_num, rfl, rfl, rfl, rfl, rfl, ⟨by omega, by omega, by have := HQ.out; omega, fun _ => by omega, by omega, by decide, HSM.out.1, rfl, by have := HQ.out; simp only [List.length_append, List.length_singleton]; omega, fun _ => by simp⟩,
                  ⟨by rw [if_neg (by omega), if_neg HQ.out.1]⟩, ⟨HN2.out.fr HF1'.out (fun k hk => by omega), HSM.out.2⟩, ⟨Or.inr ⟨by omega, rfl, by have := HR1'.out; rwa [show 2 + k + 1 = s.size by omega] at this⟩⟩, ⟨(HW.out.call (Fr.of_below' HBm.out) (fun k hk => Or.inr hk)).trans HF1'.out⟩⟩
          · have hib : (((i : Int) + 1) == 16) = false := beq_false_of_ne (by omega)
            have HSM := Aside0.mk hsum
            clear hsum hE
            by_cases hnx : 2 + k + 1 < s.size
            · go_wp2_with (go_at_call 110; go_must (refine (readByte_in r s (2 + k + 1) hnx (by omega) _ HRd.out).mono ?_); rintro e w1 ⟨rfl, hr1, hf1⟩; have HR1' := Aside0.mk hr1; have HF1' := Aside0.mk hf1; clear hr1 hf1)
              go_roundg (gk - 1)
              case measure => omega
              case rel =>
                have hB := HB.out
                exact ⟨_, zs, k + 1, d * 16 + x, i + 1, cnt + 1, _, _, 48, _, rfl, rfl, rfl, rfl, by go_num, rfl, rfl, rfl, rfl, by go_num, ⟨by omega, by omega, by have := HQ.out; omega, fun _ => by omega, by omega, HQ.out.2.2.1, HSM.out, HQ.out.2.2.2.1, by have := HQ.out; omega, fun _ => by omega⟩,
                  ⟨by rw [if_neg (by omega), if_neg HQ.out.1]⟩, ⟨HN.out.1.fr HF1'.out (fun k hk => by omega), HN.out.2⟩, ⟨Or.inl ⟨hnx, rfl, by first | rfl | simp, HR1'.out⟩⟩, ⟨HW.out.trans HF1'.out⟩⟩
            · go_wp2_with (go_at_call 110; go_must (refine (readByte_end r s (2 + k + 1) (by omega) _ (.iface te pe) HRd.out (by first | exact HW.out.cellv HF.out.1 (fun h => HF.out.2.1 h.symm) | exact (HBm.out.cell (p := ⟨1, 0, none⟩) (World.block_lt_of_cell? w _ HF.out.1)).trans (HW.out.cellv HF.out.1 (fun h => HF.out.2.1 h.symm)))).mono ?_); rintro e w1 ⟨rfl, hr1, hf1⟩; have HR1' := Aside0.mk hr1; have HF1' := Aside0.mk hf1; clear hr1 hf1)
              go_roundg (gk - 1)
              case measure => omega
              case rel =>
                have hB := HB.out
                exact ⟨_, zs, k + 1, d * 16 + x, i + 1, cnt + 1, _, _, 48, _, rfl, rfl, rfl, rfl, by go_num, rfl, rfl, rfl, rfl, by go_num, ⟨by omega, by omega, by have := HQ.out; omega, fun _ => by omega, by omega, HQ.out.2.2.1, HSM.out, HQ.out.2.2.2.1, by have := HQ.out; omega, fun _ => by omega⟩,
                  ⟨by rw [if_neg (by omega), if_neg HQ.out.1]⟩, ⟨HN.out.1.fr HF1'.out (fun k hk => by omega), HN.out.2⟩, ⟨Or.inr ⟨by omega, rfl, by have := HR1'.out; rwa [show 2 + k + 1 = s.size by omega] at this⟩⟩, ⟨HW.out.trans HF1'.out⟩⟩
    · have hst := HS.out.resolve_left (fun h => hk h.1)
      obtain ⟨hke, rfl, hrd⟩ := hst
      have HRd := Aside0.mk hrd
      have hkl : k = cs.length := by have := HC.out.2; omega
      have hk0 : 0 < k := by omega
      have hpr : pr = 48 := by
        have hP := HP.out
        rw [if_neg (by omega), if_neg] at hP
        · exact hP
        · intro h
          obtain ⟨hj, he⟩ := List.getElem?_eq_some_iff.1 h
          have := HF.out.2.2.2.1 (k - 1) hj he
          omega
      obtain ⟨hi1, hi2, hi3, hi4, hi5, hi6, hi7, hi8, hi9, hi10⟩ := HI.out
      have ht : cs.take k = cs := by rw [hkl]; exact List.take_length
      rw [ht] at hi7
      have hcnt0 : 0 < cnt := hi4 hk0
      have hiz := hi10 hk0
      have hcnt : cnt ≤ 1000 := by omega
      have hcb : ((cnt : Int) == 0) = false := beq_false_of_ne (by omega)
      have hzl : zs.length ≤ 998 := by omega
      have hev := HW.out.cellv HF.out.1 (fun h => HF.out.2.1 h.symm)
      subst hpr
      have HQ := Aside0.mk (And.intro hi6 (And.intro hi7 hi8))
      clear hrd hi2 hi3 hi4 hi6 hi7 hi8 hi9 hi10 ht hkl hke
      by_cases hi0 : i = 0
      · subst hi0
        have hXV : valL 18446744073709551616 zs.reverse = pv 16 0 cs := by
          have h1 := HQ.out.1
          have h2 := HQ.out.2.1
          rw [Nat.pow_zero] at h1 h2
          omega
        have hz0 : 0 < zs.length := by omega
        have HXV := Aside0.mk hXV
        clear hXV
        have HREV := Aside0.mk (fun W hNV hb => rev_NV w.heap.size v0 zs W hNV hz0 (by omega) hb)
        have HNO := Aside0.mk (fun W hNV => norm_NV w.heap.size v0 zs.reverse W hNV (by rw [List.length_reverse]; exact hz0) (by rw [List.length_reverse]; omega))
        clear hz0
        go_wp2_with (first | (go_at_call 152; go_must (refine (HREV.out _ HN.out.1 HW.out.size).mono ?_); rintro e w2 ⟨rfl, hn2, hb2⟩; have HN2 := Aside0.mk hn2; have HB2 := Aside0.mk hb2; clear hn2 hb2) | (go_at_call 134; go_must (refine (HNO.out _ HN2.out).mono ?_); rintro e w3 ⟨v3, rfl, hn3, -, rfl⟩; have HN3 := Aside0.mk hn3; clear hn3))
        exact bodyPost_ret (v := .tuple #[v3, .int .i64 16, .int .i64 cnt, .nilIface]) (by simp [results, Tryz.results109, go_sem]) rfl ⟨v3, 16, cnt, rfl, by rw [← HXV.out]; exact HN3.out, Rd.below HRd.out HB2.out HB.out, HW.out.call (Fr.of_below' HB2.out) (fun k hk => Or.inr hk)⟩
      · obtain ⟨hyl, hyv, hyd⟩ := scanb_end (b := 16) (n := 16) (sh := 4) (by decide) (by decide) (by omega) HQ.out.1 HQ.out.2.1
        have hni : (((16 - i : Nat)) : Int) = 16 - (i : Int) := by omega
        have hpow := pow_ok 16 (16 - i) (by omega)
        rw [hni] at hpow
        have hii : decide ((i : Int) > 0) = true := decide_eq_true (by omega)
        obtain ⟨p, hp⟩ : ∃ p : Nat, 16 ^ (16 - i) = p := ⟨_, rfl⟩
        rw [hp] at hyl hyv hyd hpow
        obtain ⟨P, hP⟩ : ∃ P : Int, (p : Int) = P := ⟨_, rfl⟩
        rw [hP] at hpow
        obtain ⟨q, hq'⟩ : ∃ q : Nat, d * p = q := ⟨_, rfl⟩
        rw [hq'] at hyl hyv
        obtain ⟨Y, hY⟩ : ∃ Y : Int, (q : Int) = Y := ⟨_, rfl⟩
        have hDP : D * P = Y := by rw [HQ.out.2.2, ← hP, ← hY, ← hq', Int.natCast_mul]
        have hwr : IntKind.u64.wrap (D * P) = Y := by rw [hDP]; exact wraps_u64 _ (by omega) (by omega)
        have hY0 : 0 ≤ Y ∧ Y < 18446744073709551616 := by omega
        have hval : valL 18446744073709551616 (zs ++ [Y]).reverse = pv 16 0 cs * p := by rw [← hY, valR_snoc, hyv]
        have hsI : ((16 : Int) - (i : Int)) * 4 = (((16 - i) * 4 : Nat) : Int) := by omega
        have hzl2 : (zs ++ [Y]).length ≤ 1000 := by simp only [List.length_append, List.length_singleton]; omega
        have hz2 : 0 < (zs ++ [Y]).length := by simp
        have hp0 : 0 < p := by rw [← hp]; exact Nat.pow_pos (by decide)
        have HPW := Aside0.mk hpow
        have HREV := Aside0.mk (fun W v hNV hb => rev_NV w.heap.size v (zs ++ [Y]) W hNV hz2 hzl2 hb)
        have HNO := Aside0.mk (fun W v hNV => norm_NV w.heap.size v (zs ++ [Y]).reverse W hNV (by rw [List.length_reverse]; exact hz2) (by rw [List.length_reverse]; exact hzl2))
        rw [hval] at HNO
        have HRS := Aside0.mk (fun W v hNV hl hb => rsh_NV w.heap.size v (pv 16 0 cs * p) ((16 - i) * 4) W hNV hl (Nat.mul_pos HF.out.2.2.2.2 hp0) (by omega) (by omega) hb)
        rw [hyd, ← hsI] at HRS
        have HL := Aside0.mk (show (zs ++ [Y]).reverse.length ≤ 1000 by rw [List.length_reverse]; exact hzl2)
        clear hyl hyv hyd hni hpow hp hP hY hq' hDP hval hsI hzl2 hz2 hp0 hiz
        go_wp2_with (first | (go_at_call 151; go_must (refine (Pr.bigall_pow.calls 10 _ _ _ _ HPW.out).mono ?_); rintro e w1 ⟨rfl, ⟨nd, rfl⟩⟩) | ((with_reducible refine gate_builtin (b := .append) (xs := #[.tmp 232, .tmp 240]) rfl ?_); at_builtin; refine wpList_append_NV _ rfl (.tmp 232) (.tmp 240) rfl w.heap.size v0 zs Y _ _ rfl rfl ?aV ?aY hY0 (by omega) (by have := HW.out.size; simp only [World.size_alloc, World.drewN]; omega) HN.out.2 ?_; (case aV => exact HN.out.1.fr (((Fr.refl (fun _ => False) _).drewN nd).alloc _) (fun _ h => h.elim)); (case aY => exact (World.cell?_alloc_at _ _ _ _ rfl).trans rfl); intro v' w2 hn2 hb2; have HN2 := Aside0.mk hn2; have HW2 := Aside0.mk (((HW.out.drewN nd).alloc _).call (Fr.of_below' hb2) (fun k hk => Or.inr hk)); have HR2 := Aside0.mk (Rd.below (Rd.far HRd.out (((Fr.refl (fun _ => False) _).drewN nd).alloc _) (fun h => h)) hb2 HB.out); clear hn2 hb2) | (go_at_call 152; go_must (refine (HREV.out _ _ HN2.out HW2.out.size).mono ?_); rintro e w3 ⟨rfl, hn3, hb3⟩; have HN3 := Aside0.mk hn3; have HB3 := Aside0.mk hb3; clear hn3 hb3) | (go_at_call 134; go_must (refine (HNO.out _ _ HN3.out).mono ?_); rintro e w4 ⟨v4, rfl, hn4, hl4, rfl⟩; have HN4 := Aside0.mk hn4; have HL4 := Aside0.mk hl4; clear hn4 hl4) | (go_at_call 153; go_must (refine (HRS.out _ _ HN4.out (Nat.le_trans HL4.out HL.out) (Nat.le_trans HW2.out.size HB3.out.size)).mono ?_); rintro e w5 ⟨v5, rfl, hn5, hb5⟩; have HN5 := Aside0.mk hn5; have HB5 := Aside0.mk hb5; clear hn5 hb5))
        exact bodyPost_ret (v := .tuple #[v5, .int .i64 16, .int .i64 cnt, .nilIface]) (by simp [results, Tryz.results109, go_sem]) rfl ⟨v5, 16, cnt, rfl, HN5.out, Rd.below HR2.out (HB3.out.trans HB5.out) HB.out, HW2.out.call (Fr.of_below' (HB3.out.trans HB5.out)) (fun k hk => Or.inr hk)⟩

end Go.Proofs.YtgpoplfgngiilaaGreatDoor
