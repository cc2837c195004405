/- FnLiteralHexFloat, behind its card (K2). -/
import Derived.Test.YtgpoplfgngiilaaGreatDoorR29
import Derived.Test.YtgpoplfgngiilaaGreatDoorR10
import Derived.Test.YtgpoplfgngiilaaGreatDoorR06
import Derived.Outline
set_option linter.unusedVariables false
set_option linter.unusedSimpArgs false
namespace Go.Proofs.YtgpoplfgngiilaaGreatDoor
set_option linter.unusedVariables false
set_option linter.unusedSimpArgs false
open Go.RowKit Go.Proofs.YtgpoplfgngiilaaGreatDoorW.PrintWords
attribute [local go_sem] me_read me_unread
theorem eql_nil_iface (te : TypeId) (pe : Value) (W : World) : (binOp .eql 85 .nilIface (.iface te pe)).run Tryz.prog W = .ok (.bool false) W := by kernel_rfl
attribute [local go_sem] eql_nil_iface

/-- What the loop of nat.scan keeps (with a point at a0; L bytes, then one more). -/
def SRelF (s : ByteArray) (r base L a0 : Nat) (cs : List UInt8) (w : World) (kq : Nat) (v0 v3 v10 v11 v13 v14 v15 v20 v21 v22 : Value) (w' : World) : Prop :=
  ∃ (z : Value) (zs : List Int) (k d i cnt : Nat) (fo : Bool) (dp ch pr D : Int), z = v0 ∧ v3 = .bool fo ∧ v14 = .bool false ∧ v22 = .int .i64 dp ∧ v10 = .int .i64 cnt ∧ v11 = .nilIface ∧ v13 = .int .i32 pr ∧ v15 = .int .u8 ch ∧ v20 = .int .u64 D ∧ v21 = .int .i64 i ∧
    Aside0 (k ≤ L ∧ L - k = kq ∧ i < 16 ∧ d < 16 ^ i ∧ valL 18446744073709551616 zs.reverse * 16 ^ i + d = pv 16 0 ((unpt cs).take k) ∧ D = (d : Int) ∧ zs.length ≤ k ∧ (0 < cnt → 0 < i + zs.length)) ∧
    Aside0 ((k ≤ a0 ∧ fo = true ∧ dp = -1 ∧ k = cnt) ∨ (a0 < k ∧ fo = false ∧ dp = a0 ∧ cnt + 1 = k)) ∧
    Aside0 (pr = 46 ∨ pr = 48) ∧
    Aside0 (NV base w' z zs ∧ InR 18446744073709551616 zs) ∧
    Aside0 (∃ h : 2 + k < s.size, ch = ((s[2 + k]'h).toNat : Int) ∧ Rd w' r s (2 + k + 1)) ∧
    Aside0 (Fr (fun k => k = r) w w')

theorem unpt_get {cs : List UInt8} {j : Nat} (hj : j < cs.length) : ∃ h : j < (unpt cs).length, (unpt cs)[j]'h = if cs[j]'hj = 46 then 95 else cs[j]'hj := ⟨by simp [unpt, hj], by simp [unpt]⟩
theorem ext_get2 (s : ByteArray) (p L j : Nat) (hL : p + L < s.size) (h : j < L) (cs : List UInt8) (hcs : cs = (s.extract p (p + L)).data.toList) : ∃ hj : j < cs.length, cs[j]'hj = s[p + j]'(by omega) := by
  subst hcs
  have hl : ((s.extract p (p + L)).data.toList).length = L := by rw [← Lib.size_eq]; simp [ByteArray.size_extract]; omega
  refine ⟨by rw [hl]; omega, ?_⟩
  simp [ByteArray.data_extract]
  rfl

set_option maxHeartbeats 2000000 in
set_option maxRecDepth 1000000 in
/-- rsh of an empty slice. -/
theorem rsh_zero (A : Option Addr) (c s : Nat) (w : World) (hs : 0 < s) (hs2 : s < 64) :
    Calls Tryz.prog 153 #[.slice A 0 c, .slice A 0 c, .int .u64 s] w fun e w' => e = .returned (.slice A 0 c) ∧ w = w' := by
  have hs1 : ((s : Int) == 0) = false := beq_false_of_ne (by omega)
  have h64 : (s : Int) / 64 = 0 := by omega
  clear hs hs2
  go_enter Tryz.func153, Tryz.ntmps153
  go_wp2_with fail
  go_ret
  exact ⟨rfl, rfl⟩
theorem rsh_NVz (base : Nat) (v : Value) (Y s : Nat) (w : World) (hV : NV base w v (lits 18446744073709551616 Y)) (hl : (lits 18446744073709551616 Y).length ≤ 1000) (hs : 0 < s) (hs64 : s < 64) (hb : base ≤ w.heap.size) :
    Calls Tryz.prog 153 #[v, v, .int .u64 s] w fun e w' => ∃ v', e = .returned v' ∧ NV base w' v' (lits 18446744073709551616 (Y / 2 ^ s)) ∧ Below base w w' := by
  rcases Nat.eq_zero_or_pos Y with hY | hY
  · subst hY
    obtain ⟨A, c, n, hn, rfl⟩ : ∃ A c n, (lits 18446744073709551616 0).length = n ∧ v = .slice A n c := by
      rcases hV with ⟨rfl, h⟩ | ⟨g, ys, h1, rfl, h3, h4⟩
      · exact ⟨none, 0, _, rfl, by rw [h]; rfl⟩
      · exact ⟨_, _, _, rfl, rfl⟩
    rw [lits_zero] at hn
    obtain rfl : n = 0 := hn.symm
    rw [lits_zero] at hV
    refine (rsh_zero A c s w hs hs64).mono ?_
    rintro e w' ⟨rfl, rfl⟩
    exact ⟨_, rfl, by rw [Nat.zero_div, lits_zero]; exact hV, Below.refl _ _⟩
  · exact rsh_NV base v Y s w hV hl hY hs hs64 hb

set_option maxHeartbeats 4000000 in
set_option maxRecDepth 1000000 in
theorem scanF_x (s : ByteArray) (r L a0 : Nat) (te : TypeId) (pe : Value) (w : World) (hs2 : s.size ≤ 1000) (hL : 2 + L < s.size) (hL2 : 2 ≤ L) (hL3 : L ≤ 40) (ha : a0 < L) (h0 : (s[0]'(by omega)).toNat = 48) (h1 : (s[1]'(by omega)).toNat = 120)
    (hend : (s[2 + L]'hL).toNat = 112 ∨ (s[2 + L]'hL).toNat = 80) (hr : Rd w r s 0)
    (hE : w.cell? ⟨1, 0, none⟩ = some (.iface te pe)) (hr1 : r ≠ 1)
    (cs : List UInt8) (hcs : cs = (s.extract 2 (2 + L)).data.toList) (hB : ∀ (j : Nat) (hj : j < cs.length), (j = a0 ∧ cs[j]'hj = 46) ∨ (j ≠ a0 ∧ Cls (cs[j]'hj).toNat (dval (cs[j]'hj)) ∧ dval (cs[j]'hj) < 16)) :
    Calls Tryz.prog 109 #[.slice none 0 0, .iface 133 (.pointer (some ⟨r, 0, none⟩)), .int .i64 0, .bool true] w fun e w' =>
      ∃ (v : Value) (cnt : Int), e = .returned (.tuple #[v, .int .i64 16, .int .i64 cnt, .nilIface]) ∧ cnt = (a0 : Int) - ((L : Int) - 1) ∧ NV w.heap.size w' v (lits 18446744073709551616 (pv 16 0 (unpt cs))) ∧ Rd w' r s (2 + L) ∧ Fr (fun k => k = r) w w' := by
  have H0 : ((s[0]'(by omega)).toNat : Int) = 48 := by omega
  have H1 : ((s[1]'(by omega)).toNat : Int) = 120 := by omega
  have HR := Aside0.mk hr
  have hcl : cs.length = L := by rw [hcs, ← Lib.size_eq]; simp [ByteArray.size_extract]; omega
  have HF := Aside0.mk (And.intro hE (And.intro hr1 (And.intro hB (And.intro hend hcl))))
  have HC := Aside0.mk hcs
  clear hr hE hr1 hB hcs hcl h0 h1 hend
  go_enter Tryz.func109, Tryz.ntmps109
  go_wp2_with (first | (go_at_call 110; (refine (readByte_in r s 2 (by omega) (by omega) _ HR2.out).mono ?_); rintro e w3 ⟨rfl, hr3, hf3⟩; have HR3 := Aside0.mk hr3; have HF3 := Aside0.mk hf3; clear hr3 hf3) | (go_at_call 110; (refine (readByte_in r s 1 (by omega) (by omega) _ HR1.out).mono ?_); rintro e w2 ⟨rfl, hr2, hf2⟩; have HR2 := Aside0.mk hr2; have HF2 := Aside0.mk hf2; clear hr2 hf2) | (go_at_call 110; (refine (readByte_in r s 0 (by omega) (by omega) _ HR.out).mono ?_); rintro e w1 ⟨rfl, hr1, hf1⟩; have HR1 := Aside0.mk hr1; have HF1 := Aside0.mk hf1; clear hr1 hf1))
  go_loopg [0, 3, 10, 11, 13, 14, 15, 20, 21, 22] L (fun kq v0 v3 v10 v11 v13 v14 v15 v20 v21 v22 w' => SRelF s r w.heap.size L a0 cs w kq v0 v3 v10 v11 v13 v14 v15 v20 v21 v22 w')
  case atStart =>
    exact ⟨_, [], 0, 0, 0, 0, true, -1, _, _, _, rfl, rfl, rfl, rfl, rfl, rfl, rfl, rfl, rfl, rfl, ⟨by omega, by omega, by omega, by decide, rfl, rfl, by simp, by omega⟩, ⟨Or.inl ⟨by omega, rfl, rfl, rfl⟩⟩, ⟨Or.inr rfl⟩, ⟨Or.inl ⟨rfl, rfl⟩, fun _ h => by cases h⟩, ⟨by omega, rfl, HR3.out⟩, ⟨(HF1.out.trans HF2.out).trans HF3.out⟩⟩
  case round =>
    obtain ⟨v0, zs, k, d, i, cnt, fo, dp, ch, pr, D, rfl, rfl, rfl, rfl, rfl, rfl, rfl, rfl, rfl, rfl, HI, HK, HP, HN, HS, HW⟩ := hrel
    have HB := Aside0.mk (Rd.lt HR.out)
    obtain ⟨hkl, hch, hrd⟩ := HS.out
    have HRd := Aside0.mk hrd
    clear hrd
    by_cases hk : k < L
    · have hnx : 2 + k + 1 < s.size := by omega
      obtain ⟨hj, hcj⟩ := ext_get2 s 2 L k hL hk cs HC.out
      obtain ⟨hju, hcu⟩ := unpt_get hj
      have hcnt : cnt ≤ 1000 := by have := HK.out; omega
      rcases HF.out.2.2.1 k hj with ⟨hka, h46⟩ | ⟨hka, hcls, hlt⟩
      · obtain ⟨q1, rfl, rfl, rfl⟩ := HK.out.resolve_right (fun h => by omega)
        have hch46 : ch = 46 := by rw [hch, ← hcj, h46]; rfl
        subst hch46
        have HQ := Aside0.mk (pv_take_us (b := 16) hju (by rw [hcu, if_pos h46]))
        have hprb : (pr == 95) = false := by rcases HP.out with rfl | rfl <;> decide
        have HKA := Aside0.mk hka
        clear hch hcj hcu h46 hka
        go_wp2_with (go_at_call 110; go_must (refine (readByte_in r s (2 + k + 1) hnx (by omega) _ HRd.out).mono ?_); rintro e w1 ⟨rfl, hr1, hf1⟩; have HR1' := Aside0.mk hr1; have HF1' := Aside0.mk hf1; clear hr1 hf1)
        go_roundg (gk - 1)
        case measure => have := HI.out; omega
        case rel =>
          obtain ⟨hi1, hi2, hi3, hi4, hi5, hi6, hi7, hi8⟩ := HI.out
          exact ⟨_, zs, k + 1, d, i, k, false, k, _, _, D, rfl, rfl, rfl, rfl, rfl, rfl, rfl, rfl, rfl, rfl, ⟨by omega, by omega, hi3, hi4, hi5.trans HQ.out.symm, hi6, by omega, hi8⟩,
            ⟨Or.inr ⟨by have := HKA.out; omega, rfl, by rw [HKA.out], rfl⟩⟩, ⟨Or.inl rfl⟩, ⟨HN.out.1.fr HF1'.out (fun k hk => by have := HB.out; omega), HN.out.2⟩, ⟨hnx, by first | rfl | simp, HR1'.out⟩, ⟨HW.out.trans HF1'.out⟩⟩
      · have HKA := Aside0.mk hka
        obtain ⟨x, hx⟩ : ∃ x, dval (cs[k]'hj) = x := ⟨_, rfl⟩
        rw [hx] at hlt hcls
        rw [hcj, ← hch] at hcls
        have h95 : (unpt cs)[k]'hju ≠ 95 := fun h => by
          rw [hcu] at h
          split at h
          · rename_i h6
            have h2 : ch = 46 := by rw [hch, ← hcj, h6]; rfl
            unfold Cls at hcls
            omega
          · have h2 : ch = 95 := by rw [hch, ← hcj, h]; rfl
            unfold Cls at hcls
            omega
        have h46 : cs[k]'hj ≠ 46 := fun h => by
          have h2 : ch = 46 := by rw [hch, ← hcj, h]; rfl
          unfold Cls at hcls
          omega
        obtain ⟨hi1, hi2, hi3, hi4, hi5, hi6, hi7, hi8⟩ := HI.out
        have hP := (pv_take_dig (b := 16) hju h95)
        rw [hcu, if_neg h46, hx] at hP
        have hsum := scan_dig hi5 hP
        have hbd := dig_bound hi4 hlt
        have hbn : 16 ^ (i + 1) ≤ 16 ^ 16 := Nat.pow_le_pow_right (by decide) (by omega)
        have hbd' : d * 16 + x < 18446744073709551616 := Nat.lt_of_lt_of_le hbd hbn
        have hD0 : 0 ≤ D := by omega
        clear hP h95 h46
        unfold Cls at hcls
        rcases hcls with ⟨hc0, hc1, hcx⟩ | ⟨hc0, hc1, hcx⟩ | ⟨hc0, hc1, hcx⟩
        · have hE : D * 16 + (ch - 48) = ((d * 16 + x : Nat) : Int) := by omega
          have hcb : (ch - 48) < 16 := by omega
          have hD1 : D * 16 + (ch - 48) < 16 ^ 16 := by omega
          have hb46 : (ch == 46) = false := beq_false_of_ne (by omega)
          have hb95 : (ch == 95) = false := beq_false_of_ne (by omega)
          have HQ := Aside0.mk (And.intro hsum (And.intro hbd (And.intro hE (And.intro hi3 (And.intro hi4 (And.intro hi7 hi8))))))
          clear hbd hbn hx hch hcj hj hi2 hi4 hi5 hi6 hi7 hi8 hcx hlt hka hcu hju
          by_cases hfull : i + 1 = 16
          · obtain rfl : i = 15 := by omega
            have hzl : zs.length ≤ 100000 := by have := HQ.out.2.2.2.2.2.1; omega
            have HSM := Aside0.mk (scanb_full (n := 15) (D := D * 16 + (ch - 48)) (by decide) hsum HN.out.2 hbd' hE)
            clear hsum hE
            go_wp2_with (first | ((with_reducible refine gate_builtin (b := .append) (xs := #[.tmp 193, .tmp 195]) rfl ?_); at_builtin; refine wpList_append_NV _ rfl (.tmp 193) (.tmp 195) rfl w.heap.size v0 zs (D * 16 + (ch - 48)) _ _ rfl rfl ?aV ?aY ⟨by omega, by omega⟩ hzl (by have := HW.out.size; simp only [World.size_alloc]; omega) HN.out.2 ?_; (case aV => exact HN.out.1.fr ((Fr.refl (fun _ => False) _).alloc _) (fun _ h => h.elim)); (case aY => go_simp); intro v' w2 hn2 hb2; have HN2 := Aside0.mk hn2; have HBm := Aside0.mk (((Below.refl w.heap.size _).alloc HW.out.size _).trans hb2); clear hn2 hb2) | (go_at_call 110; go_must (refine (readByte_in r s (2 + k + 1) hnx (by omega) _ (HRd.out.below HBm.out HB.out)).mono ?_); rintro e w1 ⟨rfl, hr1, hf1⟩; have HR1' := Aside0.mk hr1; have HF1' := Aside0.mk hf1; clear hr1 hf1))
            go_roundg (gk - 1)
            case measure => have := HI.out; omega
            case rel =>
              have hB := HB.out
              exact ⟨_, zs ++ [D * 16 + (ch - 48)], k + 1, 0, 0, cnt + 1, fo, dp, _, 48, 0, rfl, rfl, rfl, rfl, by go_num, rfl, rfl, rfl, rfl, rfl, ⟨by omega, by have := HI.out; omega, by omega, by decide, HSM.out.1, rfl, by have := HQ.out; simp only [List.length_append, List.length_singleton]; omega, fun _ => by simp⟩,
                ⟨HK.out.elim (fun h => Or.inl ⟨by have := HKA.out; omega, h.2.1, h.2.2.1, by omega⟩) (fun h => Or.inr ⟨by omega, h.2.1, h.2.2.1, by omega⟩)⟩, ⟨Or.inr rfl⟩, ⟨HN2.out.fr HF1'.out (fun k hk => by omega), HSM.out.2⟩, ⟨hnx, by first | rfl | simp, HR1'.out⟩, ⟨(HW.out.call (Fr.of_below2 HBm.out) (fun k hk => Or.inr hk)).trans HF1'.out⟩⟩
          · have hib : (((i : Int) + 1) == 16) = false := beq_false_of_ne (by omega)
            have HSM := Aside0.mk hsum
            clear hsum hE
            go_wp2_with (go_at_call 110; go_must (refine (readByte_in r s (2 + k + 1) hnx (by omega) _ HRd.out).mono ?_); rintro e w1 ⟨rfl, hr1, hf1⟩; have HR1' := Aside0.mk hr1; have HF1' := Aside0.mk hf1; clear hr1 hf1)
            go_roundg (gk - 1)
            case measure => have := HI.out; omega
            case rel =>
              have hB := HB.out
              exact ⟨_, zs, k + 1, d * 16 + x, i + 1, cnt + 1, fo, dp, _, 48, _, rfl, rfl, rfl, rfl, by go_num, rfl, rfl, rfl, rfl, by go_num, ⟨by omega, by have := HI.out; omega, by omega, HQ.out.2.1, HSM.out, HQ.out.2.2.1, by have := HQ.out; omega, fun _ => by omega⟩,
                ⟨HK.out.elim (fun h => Or.inl ⟨by have := HKA.out; omega, h.2.1, h.2.2.1, by omega⟩) (fun h => Or.inr ⟨by omega, h.2.1, h.2.2.1, by omega⟩)⟩, ⟨Or.inr rfl⟩, ⟨HN.out.1.fr HF1'.out (fun k hk => by omega), HN.out.2⟩, ⟨hnx, by first | rfl | simp, HR1'.out⟩, ⟨HW.out.trans HF1'.out⟩⟩
        · have hE : D * 16 + (ch - 97 + 10) = ((d * 16 + x : Nat) : Int) := by omega
          have hcb : (ch - 97 + 10) < 16 := by omega
          have hD1 : D * 16 + (ch - 97 + 10) < 16 ^ 16 := by omega
          have hb46 : (ch == 46) = false := beq_false_of_ne (by omega)
          have hb95 : (ch == 95) = false := beq_false_of_ne (by omega)
          have HQ := Aside0.mk (And.intro hsum (And.intro hbd (And.intro hE (And.intro hi3 (And.intro hi4 (And.intro hi7 hi8))))))
          clear hbd hbn hx hch hcj hj hi2 hi4 hi5 hi6 hi7 hi8 hcx hlt hka hcu hju
          by_cases hfull : i + 1 = 16
          · obtain rfl : i = 15 := by omega
            have hzl : zs.length ≤ 100000 := by have := HQ.out.2.2.2.2.2.1; omega
            have HSM := Aside0.mk (scanb_full (n := 15) (D := D * 16 + (ch - 97 + 10)) (by decide) hsum HN.out.2 hbd' hE)
            clear hsum hE
            go_wp2_with (first | ((with_reducible refine gate_builtin (b := .append) (xs := #[.tmp 193, .tmp 195]) rfl ?_); at_builtin; refine wpList_append_NV _ rfl (.tmp 193) (.tmp 195) rfl w.heap.size v0 zs (D * 16 + (ch - 97 + 10)) _ _ rfl rfl ?aV ?aY ⟨by omega, by omega⟩ hzl (by have := HW.out.size; simp only [World.size_alloc]; omega) HN.out.2 ?_; (case aV => exact HN.out.1.fr ((Fr.refl (fun _ => False) _).alloc _) (fun _ h => h.elim)); (case aY => go_simp); intro v' w2 hn2 hb2; have HN2 := Aside0.mk hn2; have HBm := Aside0.mk (((Below.refl w.heap.size _).alloc HW.out.size _).trans hb2); clear hn2 hb2) | (go_at_call 110; go_must (refine (readByte_in r s (2 + k + 1) hnx (by omega) _ (HRd.out.below HBm.out HB.out)).mono ?_); rintro e w1 ⟨rfl, hr1, hf1⟩; have HR1' := Aside0.mk hr1; have HF1' := Aside0.mk hf1; clear hr1 hf1))
            go_roundg (gk - 1)
            case measure => have := HI.out; omega
            case rel =>
              have hB := HB.out
              exact ⟨_, zs ++ [D * 16 + (ch - 97 + 10)], k + 1, 0, 0, cnt + 1, fo, dp, _, 48, 0, rfl, rfl, rfl, rfl, by go_num, rfl, rfl, rfl, rfl, rfl, ⟨by omega, by have := HI.out; omega, by omega, by decide, HSM.out.1, rfl, by have := HQ.out; simp only [List.length_append, List.length_singleton]; omega, fun _ => by simp⟩,
                ⟨HK.out.elim (fun h => Or.inl ⟨by have := HKA.out; omega, h.2.1, h.2.2.1, by omega⟩) (fun h => Or.inr ⟨by omega, h.2.1, h.2.2.1, by omega⟩)⟩, ⟨Or.inr rfl⟩, ⟨HN2.out.fr HF1'.out (fun k hk => by omega), HSM.out.2⟩, ⟨hnx, by first | rfl | simp, HR1'.out⟩, ⟨(HW.out.call (Fr.of_below2 HBm.out) (fun k hk => Or.inr hk)).trans HF1'.out⟩⟩
          · have hib : (((i : Int) + 1) == 16) = false := beq_false_of_ne (by omega)
            have HSM := Aside0.mk hsum
            clear hsum hE
            go_wp2_with (go_at_call 110; go_must (refine (readByte_in r s (2 + k + 1) hnx (by omega) _ HRd.out).mono ?_); rintro e w1 ⟨rfl, hr1, hf1⟩; have HR1' := Aside0.mk hr1; have HF1' := Aside0.mk hf1; clear hr1 hf1)
            go_roundg (gk - 1)
            case measure => have := HI.out; omega
            case rel =>
              have hB := HB.out
              exact ⟨_, zs, k + 1, d * 16 + x, i + 1, cnt + 1, fo, dp, _, 48, _, rfl, rfl, rfl, rfl, by go_num, rfl, rfl, rfl, rfl, by go_num, ⟨by omega, by have := HI.out; omega, by omega, HQ.out.2.1, HSM.out, HQ.out.2.2.1, by have := HQ.out; omega, fun _ => by omega⟩,
                ⟨HK.out.elim (fun h => Or.inl ⟨by have := HKA.out; omega, h.2.1, h.2.2.1, by omega⟩) (fun h => Or.inr ⟨by omega, h.2.1, h.2.2.1, by omega⟩)⟩, ⟨Or.inr rfl⟩, ⟨HN.out.1.fr HF1'.out (fun k hk => by omega), HN.out.2⟩, ⟨hnx, by first | rfl | simp, HR1'.out⟩, ⟨HW.out.trans HF1'.out⟩⟩
        · have hE : D * 16 + (ch - 65 + 10) = ((d * 16 + x : Nat) : Int) := by omega
          have hcb : (ch - 65 + 10) < 16 := by omega
          have hD1 : D * 16 + (ch - 65 + 10) < 16 ^ 16 := by omega
          have hb46 : (ch == 46) = false := beq_false_of_ne (by omega)
          have hb95 : (ch == 95) = false := beq_false_of_ne (by omega)
          have HQ := Aside0.mk (And.intro hsum (And.intro hbd (And.intro hE (And.intro hi3 (And.intro hi4 (And.intro hi7 hi8))))))
          clear hbd hbn hx hch hcj hj hi2 hi4 hi5 hi6 hi7 hi8 hcx hlt hka hcu hju
          by_cases hfull : i + 1 = 16
          · obtain rfl : i = 15 := by omega
            have hzl : zs.length ≤ 100000 := by have := HQ.out.2.2.2.2.2.1; omega
            have HSM := Aside0.mk (scanb_full (n := 15) (D := D * 16 + (ch - 65 + 10)) (by decide) hsum HN.out.2 hbd' hE)
            clear hsum hE
            go_wp2_with (first | ((with_reducible refine gate_builtin (b := .append) (xs := #[.tmp 193, .tmp 195]) rfl ?_); at_builtin; refine wpList_append_NV _ rfl (.tmp 193) (.tmp 195) rfl w.heap.size v0 zs (D * 16 + (ch - 65 + 10)) _ _ rfl rfl ?aV ?aY ⟨by omega, by omega⟩ hzl (by have := HW.out.size; simp only [World.size_alloc]; omega) HN.out.2 ?_; (case aV => exact HN.out.1.fr ((Fr.refl (fun _ => False) _).alloc _) (fun _ h => h.elim)); (case aY => go_simp); intro v' w2 hn2 hb2; have HN2 := Aside0.mk hn2; have HBm := Aside0.mk (((Below.refl w.heap.size _).alloc HW.out.size _).trans hb2); clear hn2 hb2) | (go_at_call 110; go_must (refine (readByte_in r s (2 + k + 1) hnx (by omega) _ (HRd.out.below HBm.out HB.out)).mono ?_); rintro e w1 ⟨rfl, hr1, hf1⟩; have HR1' := Aside0.mk hr1; have HF1' := Aside0.mk hf1; clear hr1 hf1))
            go_roundg (gk - 1)
            case measure => have := HI.out; omega
            case rel =>
              have hB := HB.out
              exact ⟨_, zs ++ [D * 16 + (ch - 65 + 10)], k + 1, 0, 0, cnt + 1, fo, dp, _, 48, 0, rfl, rfl, rfl, rfl, by go_num, rfl, rfl, rfl, rfl, rfl, ⟨by omega, by have := HI.out; omega, by omega, by decide, HSM.out.1, rfl, by have := HQ.out; simp only [List.length_append, List.length_singleton]; omega, fun _ => by simp⟩,
                ⟨HK.out.elim (fun h => Or.inl ⟨by have := HKA.out; omega, h.2.1, h.2.2.1, by omega⟩) (fun h => Or.inr ⟨by omega, h.2.1, h.2.2.1, by omega⟩)⟩, ⟨Or.inr rfl⟩, ⟨HN2.out.fr HF1'.out (fun k hk => by omega), HSM.out.2⟩, ⟨hnx, by first | rfl | simp, HR1'.out⟩, ⟨(HW.out.call (Fr.of_below2 HBm.out) (fun k hk => Or.inr hk)).trans HF1'.out⟩⟩
          · have hib : (((i : Int) + 1) == 16) = false := beq_false_of_ne (by omega)
            have HSM := Aside0.mk hsum
            clear hsum hE
            go_wp2_with (go_at_call 110; go_must (refine (readByte_in r s (2 + k + 1) hnx (by omega) _ HRd.out).mono ?_); rintro e w1 ⟨rfl, hr1, hf1⟩; have HR1' := Aside0.mk hr1; have HF1' := Aside0.mk hf1; clear hr1 hf1)
            go_roundg (gk - 1)
            case measure => have := HI.out; omega
            case rel =>
              have hB := HB.out
              exact ⟨_, zs, k + 1, d * 16 + x, i + 1, cnt + 1, fo, dp, _, 48, _, rfl, rfl, rfl, rfl, by go_num, rfl, rfl, rfl, rfl, by go_num, ⟨by omega, by have := HI.out; omega, by omega, HQ.out.2.1, HSM.out, HQ.out.2.2.1, by have := HQ.out; omega, fun _ => by omega⟩,
                ⟨HK.out.elim (fun h => Or.inl ⟨by have := HKA.out; omega, h.2.1, h.2.2.1, by omega⟩) (fun h => Or.inr ⟨by omega, h.2.1, h.2.2.1, by omega⟩)⟩, ⟨Or.inr rfl⟩, ⟨HN.out.1.fr HF1'.out (fun k hk => by omega), HN.out.2⟩, ⟨hnx, by first | rfl | simp, HR1'.out⟩, ⟨HW.out.trans HF1'.out⟩⟩
    · obtain rfl : k = L := by have := HI.out; omega
      obtain ⟨q1, rfl, rfl, q4⟩ := HK.out.resolve_left (fun h => by omega)
      have HQE := Aside0.mk (And.intro q1 q4)
      obtain ⟨hi1, hi2, hi3, hi4, hi5, hi6, hi7, hi8⟩ := HI.out
      have hul : (unpt cs).length = k := by simp [unpt, HF.out.2.2.2.2]
      have ht : (unpt cs).take k = unpt cs := by rw [← hul]; exact List.take_length
      rw [ht] at hi5
      have hcnt0 : 0 < cnt := by omega
      have hiz := hi8 hcnt0
      have hcnt : cnt ≤ 1000 := by omega
      have ha2 : (a0 : Int) ≤ 1000 := by omega
      have hcb : ((cnt : Int) == 0) = false := beq_false_of_ne (by omega)
      have hzl : zs.length ≤ 998 := by omega
      have hev := HW.out.cellv HF.out.1 (fun h => HF.out.2.1 h.symm)
      have hprb : (pr == 95) = false := by rcases HP.out with rfl | rfl <;> decide
      have hdp : ((a0 : Int) < 0) = False := by simp
      have hdp2 : decide ((a0 : Int) ≥ 0) = true := decide_eq_true (by omega)
      have HQ := Aside0.mk (And.intro hi4 (And.intro hi5 hi6))
      have hcl := HF.out.2.2.2.1
      have hch2 : ch = 112 ∨ ch = 80 := by omega
      clear hi1 hi2 hi4 hi5 hi6 hi7 hi8 ht hul hch hcl q1 q4
      by_cases hi0 : i = 0
      · subst hi0
        have hXV : valL 18446744073709551616 zs.reverse = pv 16 0 (unpt cs) := by
          have h1 := HQ.out.1
          have h2 := HQ.out.2.1
          rw [Nat.pow_zero] at h1 h2
          omega
        have hz0 : 0 < zs.length := by omega
        have HXV := Aside0.mk hXV
        clear hXV
        have HREV := Aside0.mk (fun W hNV hb => rev_NV w.heap.size v0 zs W hNV hz0 (by omega) hb)
        have HNO := Aside0.mk (fun W hNV => norm_NV w.heap.size v0 zs.reverse W hNV (by rw [List.length_reverse]; exact hz0) (by rw [List.length_reverse]; omega))
        clear hz0
        rcases hch2 with rfl | rfl
        all_goals
          go_wp2_with (first | (go_at_call 347; go_must (refine (unreadByte r s (2 + k) (by omega) (by omega) _ HRd.out).mono ?_); rintro e w1 ⟨rfl, hr1, hf1⟩; have HRd' := Aside0.mk hr1; have HF1' := Aside0.mk hf1; have HW' := Aside0.mk (HW.out.trans hf1); have HN' := Aside0.mk (HN.out.1.fr hf1 (fun k hk => by have := HB.out; omega)); have hev := hf1.cellv hev (fun h => HF.out.2.1 h.symm); clear hr1 hf1) | (go_at_call 152; go_must (refine (HREV.out _ HN'.out HW'.out.size).mono ?_); rintro e w2 ⟨rfl, hn2, hb2⟩; have HN2 := Aside0.mk hn2; have HB2 := Aside0.mk hb2; clear hn2 hb2) | (go_at_call 134; go_must (refine (HNO.out _ HN2.out).mono ?_); rintro e w3 ⟨v3, rfl, hn3, -, rfl⟩; have HN3 := Aside0.mk hn3; clear hn3))
          exact bodyPost_ret (v := .tuple #[v3, .int .i64 16, .int .i64 ((a0 : Int) - (cnt : Int)), .nilIface]) (by simp [results, Tryz.results109, go_sem]) rfl ⟨v3, _, rfl, by have := HQE.out.2; omega, by rw [← HXV.out]; exact HN3.out, Rd.below HRd'.out HB2.out HB.out, HW'.out.call (Fr.of_below2 HB2.out) (fun k hk => Or.inr hk)⟩
      · obtain ⟨hyl, hyv, hyd⟩ := scanb_end (b := 16) (n := 16) (sh := 4) (by decide) (by decide) (by omega) HQ.out.1 HQ.out.2.1
        have hni : (((16 - i : Nat)) : Int) = 16 - (i : Int) := by omega
        have hpow := pow_ok 16 (16 - i) (by omega)
        rw [hni] at hpow
        have hii : decide ((i : Int) > 0) = true := decide_eq_true (by omega)
        obtain ⟨p, hp⟩ : ∃ p : Nat, 16 ^ (16 - i) = p := ⟨_, rfl⟩
        rw [hp] at hyl hyv hyd hpow
        obtain ⟨P, hP⟩ : ∃ P : Int, (p : Int) = P := ⟨_, rfl⟩
        rw [hP] at hpow
        obtain ⟨q, hq'⟩ : ∃ q : Nat, d * p = q := ⟨_, rfl⟩
        rw [hq'] at hyl hyv
        obtain ⟨Y, hY⟩ : ∃ Y : Int, (q : Int) = Y := ⟨_, rfl⟩
        have hDP : D * P = Y := by rw [HQ.out.2.2, ← hP, ← hY, ← hq', Int.natCast_mul]
        have hwr : IntKind.u64.wrap (D * P) = Y := by rw [hDP]; exact wraps_u64 _ (by omega) (by omega)
        have hY0 : 0 ≤ Y ∧ Y < 18446744073709551616 := by omega
        have hval : valL 18446744073709551616 (zs ++ [Y]).reverse = pv 16 0 (unpt cs) * p := by rw [← hY, valR_snoc, hyv]
        have hsI : ((16 : Int) - (i : Int)) * 4 = (((16 - i) * 4 : Nat) : Int) := by omega
        have hzl2 : (zs ++ [Y]).length ≤ 1000 := by simp only [List.length_append, List.length_singleton]; omega
        have hz2 : 0 < (zs ++ [Y]).length := by simp
        have HPW := Aside0.mk hpow
        have HREV := Aside0.mk (fun W v hNV hb => rev_NV w.heap.size v (zs ++ [Y]) W hNV hz2 hzl2 hb)
        have HNO := Aside0.mk (fun W v hNV => norm_NV w.heap.size v (zs ++ [Y]).reverse W hNV (by rw [List.length_reverse]; exact hz2) (by rw [List.length_reverse]; exact hzl2))
        rw [hval] at HNO
        have HRS := Aside0.mk (fun W v hNV hl hb => rsh_NVz w.heap.size v (pv 16 0 (unpt cs) * p) ((16 - i) * 4) W hNV hl (by omega) (by omega) hb)
        rw [hyd, ← hsI] at HRS
        have HL := Aside0.mk (show (zs ++ [Y]).reverse.length ≤ 1000 by rw [List.length_reverse]; exact hzl2)
        clear hyl hyv hyd hni hpow hp hP hY hq' hDP hval hsI hzl2 hz2 hiz
        rcases hch2 with rfl | rfl
        all_goals
          go_wp2_with (first | (go_at_call 347; go_must (refine (unreadByte r s (2 + k) (by omega) (by omega) _ HRd.out).mono ?_); rintro e w1 ⟨rfl, hr1, hf1⟩; have HRd' := Aside0.mk hr1; have HF1' := Aside0.mk hf1; have HW' := Aside0.mk (HW.out.trans hf1); have HN' := Aside0.mk (HN.out.1.fr hf1 (fun k hk => by have := HB.out; omega)); have hev := hf1.cellv hev (fun h => HF.out.2.1 h.symm); clear hr1 hf1) | (go_at_call 151; go_must (refine (Pr.bigall_pow.calls 10 _ _ _ _ HPW.out).mono ?_); rintro e w1 ⟨rfl, ⟨nd, rfl⟩⟩) | ((with_reducible refine gate_builtin (b := .append) (xs := #[.tmp 232, .tmp 240]) rfl ?_); at_builtin; refine wpList_append_NV _ rfl (.tmp 232) (.tmp 240) rfl w.heap.size v0 zs Y _ _ rfl rfl ?aV ?aY hY0 (by omega) (by have := HW'.out.size; simp only [World.size_alloc, World.drewN]; omega) HN.out.2 ?_; (case aV => exact HN'.out.fr (((Fr.refl (fun _ => False) _).drewN nd).alloc _) (fun _ h => h.elim)); (case aY => exact (World.cell?_alloc_at _ _ _ _ rfl).trans rfl); intro v' w2 hn2 hb2; have HN2 := Aside0.mk hn2; have HW2 := Aside0.mk (((HW'.out.drewN nd).alloc _).call (Fr.of_below2 hb2) (fun k hk => Or.inr hk)); have HR2 := Aside0.mk (Rd.below (Rd.far HRd'.out (((Fr.refl (fun _ => False) _).drewN nd).alloc _) (fun h => h)) hb2 HB.out); clear hn2 hb2) | (go_at_call 152; go_must (refine (HREV.out _ _ HN2.out HW2.out.size).mono ?_); rintro e w3 ⟨rfl, hn3, hb3⟩; have HN3 := Aside0.mk hn3; have HB3 := Aside0.mk hb3; clear hn3 hb3) | (go_at_call 134; go_must (refine (HNO.out _ _ HN3.out).mono ?_); rintro e w4 ⟨v4, rfl, hn4, hl4, rfl⟩; have HN4 := Aside0.mk hn4; have HL4 := Aside0.mk hl4; clear hn4 hl4) | (go_at_call 153; go_must (refine (HRS.out _ _ HN4.out (Nat.le_trans HL4.out HL.out) (Nat.le_trans HW2.out.size HB3.out.size)).mono ?_); rintro e w5 ⟨v5, rfl, hn5, hb5⟩; have HN5 := Aside0.mk hn5; have HB5 := Aside0.mk hb5; clear hn5 hb5))
          exact bodyPost_ret (v := .tuple #[v5, .int .i64 16, .int .i64 ((a0 : Int) - (cnt : Int)), .nilIface]) (by simp [results, Tryz.results109, go_sem]) rfl ⟨v5, _, rfl, by have := HQE.out.2; omega, HN5.out, Rd.below HR2.out (HB3.out.trans HB5.out) HB.out, HW2.out.call (Fr.of_below2 (HB3.out.trans HB5.out)) (fun k hk => Or.inr hk)⟩

end Go.Proofs.YtgpoplfgngiilaaGreatDoor
