/- bigall's nat.scan at figures of base 8 or 10: the cases nscan_10. -/
import Derived.Test.YtgpoplfgngiilaaGreatDoorQN
import Derived.Outline
set_option linter.unusedVariables false
set_option linter.unusedSimpArgs false
namespace Go.Proofs.YtgpoplfgngiilaaGreatDoor
open Go.RowKit Go.Proofs.YtgpoplfgngiilaaGreatDoorW.PrintWords
attribute [local go_sem] me_read me_unread

theorem Fr.of_below' {base : Nat} {w w' : World} (h : Below base w w') : Fr (fun k => base ≤ k) w w' := ⟨h.os, h.tape, h.output, h.size, fun k _ hn => h.block k (by omega)⟩
/-- What the loop of nat.scan keeps (figures of base b, n of them a word). -/
def SRel (s : ByteArray) (r base p0 b n : Nat) (P0 : Int) (te : TypeId) (pe : Value) (cs : List UInt8) (w : World) (kq : Nat) (v0 v3 v10 v11 v13 v14 v15 v20 v21 v22 : Value) (w' : World) : Prop :=
  ∃ (z : Value) (k X d i cnt : Nat) (er : Value) (ch pr D : Int), z = v0 ∧ v3 = .bool false ∧ v14 = .bool false ∧ v22 = .int .i64 (-1) ∧ v10 = .int .i64 cnt ∧ v11 = er ∧ v13 = .int .i32 pr ∧ v15 = .int .u8 ch ∧ v20 = .int .u64 D ∧ v21 = .int .i64 i ∧
    Aside0 (p0 + k ≤ s.size ∧ kq = s.size - p0 - k ∧ cnt ≤ k ∧ (0 < k → 0 < cnt) ∧ i < n ∧ d < b ^ i ∧ X * b ^ i + d = pv b 0 (cs.take k) ∧ D = (d : Int)) ∧
    Aside0 (pr = if k = 0 then P0 else if cs[k - 1]? = some 95 then 95 else 48) ∧
    Aside0 (NV base w' z (lits 18446744073709551616 X) ∧ (X = 0 → z = .slice none 0 0)) ∧
    Aside0 ((∃ h : p0 + k < s.size, er = .nilIface ∧ ch = ((s[p0 + k]'h).toNat : Int) ∧ Rd w' r s (p0 + k + 1)) ∨ (p0 + k = s.size ∧ er = .iface te pe ∧ Rd w' r s s.size)) ∧
    Aside0 (Fr (fun k => k = r) w w')

set_option maxHeartbeats 2000000 in
set_option maxRecDepth 1000000 in
theorem nscan_10 (s : ByteArray) (r : Nat) (te : TypeId) (pe : Value) (w : World) (hs : 0 < s.size) (hs2 : s.size ≤ 1000) (hr : Rd w r s 0)
    (hE : w.cell? ⟨1, 0, none⟩ = some (.iface te pe)) (hr1 : r ≠ 1) (hq : ∀ W, (binOp .eql 85 (.iface te pe) (.iface te pe)).run Tryz.prog W = .ok (.bool true) W)
    (cs : List UInt8) (hcs : cs = (s.extract 0 s.size).data.toList) (hB : Body 10 cs) (hU : ∀ (j : Nat) (hj : j < cs.length), cs[j]'hj = 95 → 1 ≤ j ∧ j + 1 < cs.length ∧ cs[j - 1]? ≠ some 95)
    (hd0 : ∀ h : 0 < cs.length, 0 < dval (cs[0]'h)) (hV : pv 10 0 cs < 18446744073709551616 ^ 10) :
    Calls Tryz.prog 109 #[.slice none 0 0, .iface 133 (.pointer (some ⟨r, 0, none⟩)), .int .i64 0, .bool false] w fun e w' =>
      ∃ (v : Value) (bb cnt : Int), e = .returned (.tuple #[v, .int .i64 bb, .int .i64 cnt, .nilIface]) ∧ NV w.heap.size w' v (lits 18446744073709551616 (pv 10 0 cs)) ∧ Rd w' r s s.size ∧ Fr (fun k => k = r) w w' := by
  have HR := Aside0.mk hr
  have HF := Aside0.mk (And.intro hE (And.intro hr1 (And.intro hB (And.intro hU (And.intro hd0 hV)))))
  have hcl : cs.length = s.size - 0 := by rw [hcs, Lib.size_eq]; simp [ByteArray.size_extract]
  have HC := Aside0.mk (And.intro hcs hcl)
  obtain ⟨hj0, hc0⟩ := ext_get s 0 0 (by omega) cs hcs
  have hdg := hd0 hj0
  rw [hc0] at hdg
  have hne : (s[0 + 0]'(by omega)).toNat ≠ 48 := fun h => by unfold dval at hdg; rw [h] at hdg; simp at hdg
  obtain ⟨q0, H0⟩ : ∃ q : Int, ((s[0]'(by omega)).toNat : Int) = q := ⟨_, rfl⟩
  have hne2 : q0 ≠ 48 := fun h => hne (by have : ((s[0]'(by omega)).toNat : Int) = 48 := by rw [H0, h]
                                          exact_mod_cast this)
  have g0 : (q0 == 48) = false := beq_false_of_ne hne2
  clear hj0 hc0 hdg hne
  clear hr hE hr1 hB hU hd0 hV hcs hcl
  go_enter Tryz.func109, Tryz.ntmps109
  go_wp2_with (first | (go_at_call 110; go_must (refine (readByte_in r s 0 (by omega) (by omega) _ HR.out).mono ?_); rintro e w1 ⟨rfl, hr1, hf1⟩; have HR1 := Aside0.mk hr1; have HF1 := Aside0.mk hf1; clear hr1 hf1) | (go_at_call 149; go_must (refine (maxPow_10 _).mono ?_); rintro e w' ⟨rfl, rfl⟩))
  go_loopg [0, 3, 10, 11, 13, 14, 15, 20, 21, 22] (s.size - 0) (fun kq v0 v3 v10 v11 v13 v14 v15 v20 v21 v22 w' => SRel s r w.heap.size 0 10 19 46 te pe cs w kq v0 v3 v10 v11 v13 v14 v15 v20 v21 v22 w')
  case atStart =>
    refine ⟨_, 0, 0, 0, 0, 0, _, _, _, _, rfl, rfl, rfl, rfl, rfl, rfl, rfl, rfl, rfl, rfl, ⟨by omega, by omega, by omega, by omega, by omega, by decide, rfl, rfl⟩, ⟨rfl⟩, ⟨Or.inl ⟨rfl, by rw [lits_zero]⟩, fun _ => rfl⟩, ⟨Or.inl ⟨by omega, rfl, H0.symm, HR1.out⟩⟩, ⟨HF1.out⟩⟩
  case round =>
    obtain ⟨v0, k, X, d, i, cnt, er, ch, pr, D, rfl, rfl, rfl, rfl, rfl, rfl, rfl, rfl, rfl, rfl, HI, HP, HN, HS, HW⟩ := hrel
    have HB := Aside0.mk (Rd.lt HR.out)
    by_cases hk : 0 + k < s.size
    · obtain ⟨hj, hcj⟩ := ext_get s 0 k hk cs HC.out.1
      have hst := HS.out.resolve_right (fun h => by omega)
      obtain ⟨_, rfl, hch, hrd⟩ := hst
      have HRd := Aside0.mk hrd
      have hcls0 := HF.out.2.2.1 (cs[k]'hj) (List.getElem_mem hj)
      clear hrd
      rcases hcls0 with h95 | ⟨hcls, hlt⟩
      · have hu := HF.out.2.2.2.1 k hj h95
        have hpr : pr = 48 := by have := HP.out; rw [if_neg (by omega), if_neg hu.2.2] at this; exact this
        have hnx : 0 + k + 1 < s.size := by have := HC.out.2; omega
        have hch95 : ch = 95 := by rw [hch, ← hcj, h95]; rfl
        have HQ := Aside0.mk (And.intro (pv_take_us (b := 10) hj h95) (show cs[k + 1 - 1]? = some 95 by rw [Nat.add_sub_cancel, List.getElem?_eq_getElem hj, h95]))
        have HK := Aside0.mk (show 0 < k by omega)
        subst hpr
        subst hch95
        clear hu h95 hch hcj hj
        go_wp2_with (go_at_call 110; go_must (refine (readByte_in r s (0 + k + 1) hnx (by omega) _ HRd.out).mono ?_); rintro e w1 ⟨rfl, hr1, hf1⟩; have HR1' := Aside0.mk hr1; have HF1' := Aside0.mk hf1; clear hr1 hf1)
        go_roundg (gk - 1)
        case measure => have := HI.out; omega
        case rel =>
          have hB := HB.out
          exact ⟨_, k + 1, X, d, i, cnt, _, _, 95, D, rfl, rfl, rfl, rfl, rfl, rfl, rfl, rfl, rfl, rfl, ⟨by omega, by have := HI.out; omega, by have := HI.out; omega, fun _ => HI.out.2.2.2.1 HK.out, HI.out.2.2.2.2.1, HI.out.2.2.2.2.2.1, HI.out.2.2.2.2.2.2.1.trans HQ.out.1.symm, HI.out.2.2.2.2.2.2.2⟩,
            ⟨by rw [if_neg (by omega), if_pos HQ.out.2]⟩, ⟨HN.out.1.fr HF1'.out (fun k hk => by omega), HN.out.2⟩, ⟨Or.inl ⟨hnx, rfl, by first | rfl | simp, HR1'.out⟩⟩, ⟨HW.out.trans HF1'.out⟩⟩
      · obtain ⟨x, hx⟩ : ∃ x, dval (cs[k]'hj) = x := ⟨_, rfl⟩
        rw [hx] at hlt hcls
        rw [hcj, ← hch] at hcls
        have h95 : cs[k]'hj ≠ 95 := fun h => by
          have h2 : ch = 95 := by rw [hch, ← hcj, h]; rfl
          unfold Cls at hcls
          omega
        have hc0 : 48 ≤ ch := by unfold Cls at hcls; omega
        have hc1 : ch ≤ 57 := by unfold Cls at hcls; omega
        have hcx : ch - 48 = (x : Int) := by unfold Cls at hcls; omega
        have hcb : ch - 48 < 10 := by omega
        have hns : cs[k + 1 - 1]? ≠ some 95 := by rw [Nat.add_sub_cancel, List.getElem?_eq_getElem hj]; exact fun h => h95 (Option.some.inj h)
        obtain ⟨hi1, hi2, hi3, hi4, hi5, hi6, hi7, hi8⟩ := HI.out
        have hP := (pv_take_dig (b := 10) hj h95)
        rw [hx] at hP
        have hpos := pv_take_pos (b := 10) (by decide) (by omega) (fun h => absurd h (fun h => by have := HF.out.2.2.2.1 0 (by omega) h; omega)) (HF.out.2.2.2.2.1 (by omega)) (k + 1) (by omega)
        have hle := Nat.lt_of_le_of_lt (pv_take_le (b := 10) (by decide) cs (k + 1)) HF.out.2.2.2.2.2
        have hsum := scan_dig hi7 hP
        have hbd := dig_bound hi6 hlt
        have hbn : 10 ^ (i + 1) ≤ 10000000000000000000 := by
          have : 10 ^ (i + 1) ≤ 10 ^ 19 := Nat.pow_le_pow_right (by decide) (by omega)
          exact this
        have hE : D * 10 + (ch - 48) = ((d * 10 + x : Nat) : Int) := by omega
        have hcnt : cnt ≤ 1000 := by omega
        have hD0 : 0 ≤ D := by omega
        have hD1 : D * 10 + (ch - 48) < 10000000000000000000 := by omega
        have HQ := Aside0.mk (And.intro hns (And.intro hsum (And.intro hbd (And.intro hpos (And.intro hle (And.intro hE (And.intro hi3 hi4)))))))
        clear hns hP hpos hle hbd hbn hx hcls h95 hch hcj hj hi3 hi4 hi6 hi7 hi8 hcx hlt
        by_cases hfull : i + 1 = 19
        · obtain rfl : i = 18 := by omega
          have hlen : (lits 18446744073709551616 X).length ≤ 1000 := by
            have h1 : X ≤ pv 10 0 (cs.take (k + 1)) := by
              rw [← hsum]
              have : X * 1 ≤ X * 10 ^ (18 + 1) := Nat.mul_le_mul_left X (by decide)
              omega
            have := lits_len_10 (Nat.lt_of_le_of_lt h1 HQ.out.2.2.2.2.1)
            omega
          have h0 : lits 18446744073709551616 X = [] → v0 = .slice none 0 0 ∧ 0 < d * 10 + x := fun h => by
            have hX0 : X = 0 := by have := congrArg (valL 18446744073709551616) h; rw [valL_lits _ (by decide)] at this; exact this
            refine ⟨HN.out.2 hX0, ?_⟩
            have h2 := HQ.out.2.2.2.1
            rw [← hsum, hX0, Nat.zero_mul, Nat.zero_add] at h2
            exact h2
          have hmul0 := fun W hNV (hb : w.heap.size ≤ W.heap.size) => mulAddWW w.heap.size 10000000000000000000 (d * 10 + x) v0 (lits 18446744073709551616 X) W hNV hlen (InR_lits _ (by decide) _) (by decide) (by decide) (by omega) h0 hb
          rw [valL_lits _ (by decide), ← hE] at hmul0
          have hmul1 : ∀ W, NV w.heap.size W v0 (lits 18446744073709551616 X) → w.heap.size ≤ W.heap.size → Calls Tryz.prog 150 #[v0, v0, .int .u64 10000000000000000000, .int .u64 (D * 10 + (ch - 48))] W fun e w' => ∃ v, e = .returned v ∧ NV w.heap.size w' v (lits 18446744073709551616 (X * 10000000000000000000 + (d * 10 + x))) ∧ Below w.heap.size W w' := hmul0
          have HMUL := Aside0.mk hmul1
          have HSM := Aside0.mk (show X * 10000000000000000000 + (d * 10 + x) = pv 10 0 (cs.take (k + 1)) from hsum)
          clear hmul0 hmul1 h0 hlen hsum hE
          by_cases hnx : 0 + k + 1 < s.size
          · go_wp2_with (first | (go_at_call 150; go_must (refine (HMUL.out _ HN.out.1 HW.out.size).mono ?_); rintro e w2 ⟨v, rfl, hn2, hb2⟩; have HN2 := Aside0.mk hn2; have HBm := Aside0.mk hb2; clear hn2 hb2) | (go_at_call 110; go_must (refine (readByte_in r s (0 + k + 1) hnx (by omega) _ (HRd.out.below HBm.out HB.out)).mono ?_); rintro e w1 ⟨rfl, hr1, hf1⟩; have HR1' := Aside0.mk hr1; have HF1' := Aside0.mk hf1; clear hr1 hf1))
            go_roundg (gk - 1)
            case measure => omega
            case rel =>
              have hB := HB.out
              exact ⟨_, k + 1, X * 10000000000000000000 + (d * 10 + x), 0, 0, cnt + 1, _, _, 48, 0, rfl, rfl, rfl, rfl, by go_num, rfl, rfl, rfl, rfl, rfl, ⟨by omega, by omega, by have := HQ.out; omega, fun _ => by omega, by omega, by decide, by rw [Nat.pow_zero, Nat.mul_one, Nat.add_zero]; exact HSM.out, rfl⟩,
                ⟨by rw [if_neg (by omega), if_neg HQ.out.1]⟩, ⟨HN2.out.fr HF1'.out (fun k hk => by omega), fun h => absurd (HSM.out.symm.trans h) (by have := HQ.out.2.2.2.1; omega)⟩, ⟨Or.inl ⟨hnx, rfl, by first | rfl | simp, HR1'.out⟩⟩, ⟨(HW.out.call (Fr.of_below' HBm.out) (fun k hk => Or.inr hk)).trans HF1'.out⟩⟩
          · go_wp2_with (first | (go_at_call 150; go_must (refine (HMUL.out _ HN.out.1 HW.out.size).mono ?_); rintro e w2 ⟨v, rfl, hn2, hb2⟩; have HN2 := Aside0.mk hn2; have HBm := Aside0.mk hb2; clear hn2 hb2) | (go_at_call 110; go_must (refine (readByte_end r s (0 + k + 1) (by omega) _ (.iface te pe) (HRd.out.below HBm.out HB.out) (by first | exact HW.out.cellv HF.out.1 (fun h => HF.out.2.1 h.symm) | exact (HBm.out.cell (p := ⟨1, 0, none⟩) (World.block_lt_of_cell? w _ HF.out.1)).trans (HW.out.cellv HF.out.1 (fun h => HF.out.2.1 h.symm)))).mono ?_); rintro e w1 ⟨rfl, hr1, hf1⟩; have HR1' := Aside0.mk hr1; have HF1' := Aside0.mk hf1; clear hr1 hf1))
            go_roundg (gk - 1)
            case measure => omega
            case rel =>
              have hB := HB.out
              exact ⟨_, k + 1, X * 10000000000000000000 + (d * 10 + x), 0, 0, cnt + 1, _, _, 48, 0, rfl, rfl, rfl, rfl, by go_num, rfl, rfl, rfl, rfl, rfl, ⟨by omega, by omega, by have := HQ.out; omega, fun _ => by omega, by omega, by decide, by rw [Nat.pow_zero, Nat.mul_one, Nat.add_zero]; exact HSM.out, rfl⟩,
                ⟨by rw [if_neg (by omega), if_neg HQ.out.1]⟩, ⟨HN2.out.fr HF1'.out (fun k hk => by omega), fun h => absurd (HSM.out.symm.trans h) (by have := HQ.out.2.2.2.1; omega)⟩, ⟨Or.inr ⟨by omega, rfl, by have := HR1'.out; rwa [show 0 + k + 1 = s.size by omega] at this⟩⟩, ⟨(HW.out.call (Fr.of_below' HBm.out) (fun k hk => Or.inr hk)).trans HF1'.out⟩⟩
        · by_cases hnx : 0 + k + 1 < s.size
          · have hib : (((i : Int) + 1) == 19) = false := beq_false_of_ne (by omega)
            have HSM := Aside0.mk hsum
            clear hsum hE
            go_wp2_with (go_at_call 110; go_must (refine (readByte_in r s (0 + k + 1) hnx (by omega) _ HRd.out).mono ?_); rintro e w1 ⟨rfl, hr1, hf1⟩; have HR1' := Aside0.mk hr1; have HF1' := Aside0.mk hf1; clear hr1 hf1)
            go_roundg (gk - 1)
            case measure => omega
            case rel =>
              have hB := HB.out
              exact ⟨_, k + 1, X, d * 10 + x, i + 1, cnt + 1, _, _, 48, _, rfl, rfl, rfl, rfl, by go_num, rfl, rfl, rfl, rfl, by go_num, ⟨by omega, by omega, by have := HQ.out; omega, fun _ => by omega, by omega, HQ.out.2.2.1, HSM.out, HQ.out.2.2.2.2.2.1⟩,
                ⟨by rw [if_neg (by omega), if_neg HQ.out.1]⟩, ⟨HN.out.1.fr HF1'.out (fun k hk => by omega), HN.out.2⟩, ⟨Or.inl ⟨hnx, rfl, by first | rfl | simp, HR1'.out⟩⟩, ⟨HW.out.trans HF1'.out⟩⟩
          · have hib : (((i : Int) + 1) == 19) = false := beq_false_of_ne (by omega)
            have HSM := Aside0.mk hsum
            clear hsum hE
            go_wp2_with (go_at_call 110; go_must (refine (readByte_end r s (0 + k + 1) (by omega) _ (.iface te pe) HRd.out (by first | exact HW.out.cellv HF.out.1 (fun h => HF.out.2.1 h.symm) | exact (HBm.out.cell (p := ⟨1, 0, none⟩) (World.block_lt_of_cell? w _ HF.out.1)).trans (HW.out.cellv HF.out.1 (fun h => HF.out.2.1 h.symm)))).mono ?_); rintro e w1 ⟨rfl, hr1, hf1⟩; have HR1' := Aside0.mk hr1; have HF1' := Aside0.mk hf1; clear hr1 hf1)
            go_roundg (gk - 1)
            case measure => omega
            case rel =>
              have hB := HB.out
              exact ⟨_, k + 1, X, d * 10 + x, i + 1, cnt + 1, _, _, 48, _, rfl, rfl, rfl, rfl, by go_num, rfl, rfl, rfl, rfl, by go_num, ⟨by omega, by omega, by have := HQ.out; omega, fun _ => by omega, by omega, HQ.out.2.2.1, HSM.out, HQ.out.2.2.2.2.2.1⟩,
                ⟨by rw [if_neg (by omega), if_neg HQ.out.1]⟩, ⟨HN.out.1.fr HF1'.out (fun k hk => by omega), HN.out.2⟩, ⟨Or.inr ⟨by omega, rfl, by have := HR1'.out; rwa [show 0 + k + 1 = s.size by omega] at this⟩⟩, ⟨HW.out.trans HF1'.out⟩⟩
    · have hst := HS.out.resolve_left (fun h => hk h.1)
      obtain ⟨hke, rfl, hrd⟩ := hst
      have HRd := Aside0.mk hrd
      have hkl : k = cs.length := by have := HC.out.2; omega
      have hk0 : 0 < k := by omega
      have hpr : pr = 48 := by
        have hP := HP.out
        rw [if_neg (by omega), if_neg] at hP
        · exact hP
        · intro h
          obtain ⟨hj, he⟩ := List.getElem?_eq_some_iff.1 h
          have := HF.out.2.2.2.1 (k - 1) hj he
          omega
      obtain ⟨hi1, hi2, hi3, hi4, hi5, hi6, hi7, hi8⟩ := HI.out
      have ht : cs.take k = cs := by rw [hkl]; exact List.take_length
      rw [ht] at hi7
      have hcnt0 : 0 < cnt := hi4 hk0
      have hcnt : cnt ≤ 1000 := by omega
      have hcb : ((cnt : Int) == 0) = false := beq_false_of_ne (by omega)
      have hev := HW.out.cellv HF.out.1 (fun h => HF.out.2.1 h.symm)
      subst hpr
      have HQ := Aside0.mk (And.intro hi6 (And.intro hi7 hi8))
      clear hrd hi2 hi3 hi4 hi6 hi7 hi8 ht hkl hke
      by_cases hi0 : i = 0
      · subst hi0
        have hXV : X = pv 10 0 cs := by
          have h1 := HQ.out.1
          have h2 := HQ.out.2.1
          rw [Nat.pow_zero] at h1 h2
          omega
        have HXV := Aside0.mk hXV
        clear hXV
        go_wp2_with fail
        exact bodyPost_ret (v := .tuple #[v0, .int .i64 10, .int .i64 cnt, .nilIface]) (by simp [results, Tryz.results109, go_sem]) rfl ⟨v0, ⟨10, cnt, rfl⟩, by rw [← HXV.out]; exact HN.out.1, HRd.out, HW.out⟩
      · have hpow := pow_ok 10 i (by omega)
        have hii : decide ((i : Int) > 0) = true := decide_eq_true (by omega)
        have hlen : (lits 18446744073709551616 X).length ≤ 1000 := by
          have h1 : X ≤ pv 10 0 cs := by
            rw [← HQ.out.2.1]
            have : X * 1 ≤ X * 10 ^ i := Nat.mul_le_mul_left X (Nat.pow_pos (by decide))
            omega
          have := lits_len_10 (Nat.lt_of_le_of_lt h1 HF.out.2.2.2.2.2)
          omega
        have hbi : 10 ^ i ≤ 10000000000000000000 := by
          have : 10 ^ i ≤ 10 ^ 19 := Nat.pow_le_pow_right (by decide) (by omega)
          exact this
        have hbi0 : 0 < 10 ^ i := Nat.pow_pos (by decide)
        have hdb : d < 10 ^ i := HQ.out.1
        have h0 : lits 18446744073709551616 X = [] → v0 = .slice none 0 0 ∧ 0 < d := fun h => by
          have hX0 : X = 0 := by have := congrArg (valL 18446744073709551616) h; rw [valL_lits _ (by decide)] at this; exact this
          refine ⟨HN.out.2 hX0, ?_⟩
          have h2 := pv_take_pos (b := 10) (by decide) (by have := HC.out.2; omega) (fun h => absurd h (fun h => by have := HF.out.2.2.2.1 0 (by have := HC.out.2; omega) h; omega)) (HF.out.2.2.2.2.1 (by have := HC.out.2; omega)) k hk0
          have h3 : pv 10 0 (cs.take k) = pv 10 0 cs := by
            have hkl : k = cs.length := by have := HC.out.2; have := HI.out; omega
            rw [hkl, List.take_length]
          rw [h3, ← HQ.out.2.1, hX0, Nat.zero_mul, Nat.zero_add] at h2
          exact h2
        have hmul0 := fun W hNV (hb : w.heap.size ≤ W.heap.size) => mulAddWW w.heap.size (10 ^ i) d v0 (lits 18446744073709551616 X) W hNV hlen (InR_lits _ (by decide) _) hbi0 (by omega) (by omega) h0 hb
        rw [valL_lits _ (by decide), HQ.out.2.1, ← HQ.out.2.2] at hmul0
        have HMUL := Aside0.mk hmul0
        obtain ⟨y, hy⟩ : ∃ y : Int, ((10 ^ i : Nat) : Int) = y := ⟨_, rfl⟩
        rw [hy] at hpow
        have HPW := Aside0.mk hpow
        have HY := Aside0.mk hy
        clear hpow hlen hbi hbi0 hdb h0 hmul0 hy
        go_wp2_with (first | (go_at_call 151; go_must (refine (Pr.bigall_pow.calls 10 _ _ _ _ HPW.out).mono ?_); rintro e w2 ⟨rfl, ⟨nd, rfl⟩⟩) | (go_at_call 150; rw [← HY.out]; go_must (refine (HMUL.out _ (HN.out.1.fr ((Fr.refl (fun _ => False) _).drewN nd) (fun _ h => h.elim)) HW.out.size).mono ?_); rintro e w3 ⟨v, rfl, hn3, hb3⟩; have HN3 := Aside0.mk hn3; have HB3 := Aside0.mk hb3; clear hn3 hb3))
        exact bodyPost_ret (v := .tuple #[v, .int .i64 10, .int .i64 cnt, .nilIface]) (by simp [results, Tryz.results109, go_sem]) rfl ⟨v, 10, cnt, rfl, HN3.out, Rd.below (rd_drewN HRd.out nd) HB3.out HB.out, (HW.out.drewN nd).call (Fr.of_below' HB3.out) (fun k hk => Or.inr hk)⟩

end Go.Proofs.YtgpoplfgngiilaaGreatDoor
